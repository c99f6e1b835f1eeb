import JvmDerived
import JvmDerived.Pilot.@@N@@Statement
import JvmDerived.Pilot.@@N@@Code
set_option linter.unusedVariables false
set_option linter.unusedSimpArgs false
namespace Jvm.Pilot.@@N@@
open Jvm Jvm.ClassFile Sem Op Lib Jvm.Free Jvm.Stand Jvm.LawKit Jvm.RoadKit Bundle Jvm.Pilot.@@N@@.Jvm.D
/-! own_Go: from the state S the run comes to an end of which R holds; a step is taken ahead of it (own_st), so that a walk can fork wherever it likes. -/
def own_Go (tb : Tables) (e : Env) (below : List Frame) (S : State) (R : Outcome → State → Prop) : Prop := ∃ t o, Steps tb e below S t ∧ t.status = .running ∧ Ended t below o ∧ R o t
theorem own_st {tb : Tables} {e : Env} {below : List Frame} {S S' : State} {R : Outcome → State → Prop} (h : ∀ t, Steps tb e below S' t → Steps tb e below S t) (k : own_Go tb e below S' R) : own_Go tb e below S R := by
  obtain ⟨t, o, h1, h2⟩ := k
  exact ⟨t, o, h t h1, h2⟩
abbrev own_R (s : State) (Q : Option Value → Heap → List Loc → Prop) (k n : Nat) (o : Outcome) (t : State) : Prop := ∃ v L, o = .returned v ∧ Q v t.heap L ∧ FrameEnd s o t L k n
abbrev own_Met (l : Launch) (y : MethodName) (bytes : ByteArray) (maxL : Nat) (rt : Option FieldType) (ws : List Jvm.Cond) (rm : Room) (as' : Array Value) (Z : State) (h0 : Heap) (Q : Option Value → Heap → List Loc → Prop) : Prop :=
  MetFree l y (head1 (Jvm.Cond.code y bytes maxL rt :: ws) rm) (fun a U => a = as' ∧ Z.Warmed39 U.vm ∧ U.heap = h0) (fun _ _ _ _ _ => True) (fun _ U o U' => ∃ v L, o = .returned v ∧ Q v U'.heap L ∧ FrameEnd U o U' L rm.cells rm.slots)
theorem own_body {l : Launch} {y : MethodName} {bytes : ByteArray} {maxL : Nat} {rt : Option FieldType} {ws : List Jvm.Cond} {rm : Room} {as' : Array Value} {Z : State} {h0 : Heap} {Q : Option Value → Heap → List Loc → Prop} (hp : plainFor y = true)
    (hb : ∀ (p : Program) (e : Env) (s : State) (m : MethodId) (below : List Frame) (meth : Method) (c : Code) (T : State), Stand p l e rm s m as' below meth c T [] 0 0 → p.tables.exec = Jvm.exec → c.code = bytes → c.maxLocals = maxL → s.vm.findClass y.cls = some m.cls → meth.name = y.name → meth.sig.returnType = rt → meth.locks = false → Z.Warmed39 s.vm → T.heap = h0 →
      own_Go p.tables e below (T.setTop (entryFrame m as' maxL)) (own_R s Q rm.cells rm.slots)) : own_Met l y bytes maxL rt ws rm as' Z h0 Q := by
  refine MetFree.of_bodySF hp hisR ?_
  intro p e s m args below meth c s₁ Bd hml0 hP hK
  obtain ⟨rfl, hZ, hh⟩ := hP
  exact hb p e s m below meth c s₁ (Stand.of_body Bd) Bd.exec Bd.bytes hml0 (findClass_of_methodNamed Bd.named) (name_of_methodNamed Bd.named Bd.method).1 Bd.returns Bd.notSynchronized hZ (by rw [← hh, Bd.state]; rfl)
section Own
variable {p : Program} {l : Launch} {e : Env} {R : Room} {s : State} {m : MethodId} {args : Array Value} {below : List Frame} {meth : Method} {c : Code} {T : State} {locs : List Loc} {cells slots : Nat} {Z : State} {a0 : Array Value} {h : Heap} {Q : Option Value → Heap → List Loc → Prop} {RR : Outcome → State → Prop}
theorem own_cat {v : Value} (q : v.isRef = true) : v.category = 1 := by cases v <;> simp [Value.isRef, Value.category] at q ⊢
theorem own_eqI {first : State} {o : Option Outcome} {idx : List Nat} {a : Term} {k : Int32} (q : (Jvm.Cond.eq a (.int k)).value args first o s idx = some true) : a.eval args first o idx s = some (.int k) := by
  simp only [Cond.value, Term.eval] at q
  cases ht : a.eval args first o idx s with
  | none => simp [ht] at q
  | some x => cases x <;> simp [ht] at q ⊢ <;> exact q
theorem own_Z0 {n0 : Nat} (O : Old Z n0 h) : n0 ≤ h.size := O.1 ▸ O.2.1
theorem own_leave (X : Stand p l e R s m args below meth c T locs cells slots) (hlk : meth.locks = false) {v : Option Value} (hv : meth.sig.returnType = none → v = none) {S : State} {k n : Nat} (hk : cells ≤ k) (hn : slots ≤ n) (hq : Q v T.heap locs)
    (st : ∀ fs : List Frame, (∀ (f : JFrame) (acts : List Action), f.method = m → f.locked = none → f.entered = [] → (doReturn e (T.setTop f) acts v).1 = T.setFrames fs) → Steps p.tables e below S (T.setFrames fs)) : own_Go p.tables e below S (own_R s Q k n) := by
  obtain ⟨fs, hr, hrun, hended, hW, hsame⟩ := X.leave (v := v) hv hlk
  exact ⟨_, _, st fs hr, hrun, hended, v, locs, rfl, hq, ⟨_, rfl⟩, hW, hsame.mono hk hn⟩
theorem own_retI (X : Stand p l e R s m args below meth c T locs cells slots) (hx : p.tables.exec = Jvm.exec) {pc : Nat} {Ls : Array Slot} {z : Int32} {rest : List Value} (hret : meth.sig.returnType = some .int) (hd : decode c.code pc = .ok (.ireturn, 1)) (hlk : meth.locks = false) {k n : Nat} (hk : cells ≤ k) (hn : slots ≤ n) (hq : Q (some (.int z)) T.heap locs) :
    own_Go p.tables e below (T.setTop (mkF m pc Ls (.int z :: rest))) (own_R s Q k n) := by
  refine own_leave X hlk (fun q => by rw [hret] at q; cases q) hk hn hq fun fs hl => ?_
  have hm' : T.vm.method? m = some meth := X.method'
  have hn : narrow .int (.int z) = .int z := rfl
  show Steps p.tables e below (T.setTop { method := m, pc := pc, locals := Ls, stack := _ :: rest, locked := none }) _
  jvm_step X.here [X.here.top, hx, hd, hm', hret, hn]
  first | (intro acts; rw [hl _ acts rfl rfl rfl]) | rw [hl _ _ rfl rfl rfl]
  exact Steps.refl _
theorem own_retZ (X : Stand p l e R s m args below meth c T locs cells slots) (hx : p.tables.exec = Jvm.exec) {pc : Nat} {Ls : Array Slot} {z : Int32} {t : FieldType} {rest : List Value} (hret : meth.sig.returnType = some t) (ht : t = .boolean ∨ t = .byte ∨ t = .char ∨ t = .short) (hd : decode c.code pc = .ok (.ireturn, 1)) (hlk : meth.locks = false) {k n : Nat} (hk : cells ≤ k) (hn : slots ≤ n) (hq : Q (some (.int (nar t z))) T.heap locs) :
    own_Go p.tables e below (T.setTop (mkF m pc Ls (.int z :: rest))) (own_R s Q k n) :=
  own_leave X hlk (fun q => by rw [hret] at q; cases q) hk hn hq fun fs hl => retN X hx hret ht hd hl
theorem own_retA (X : Stand p l e R s m args below meth c T locs cells slots) (hx : p.tables.exec = Jvm.exec) {pc : Nat} {Ls : Array Slot} {z : Value} {t : FieldType} {rest : List Value} (hret : meth.sig.returnType = some t) (ht : t.isReference = true) (hz : z.isRef = true) (hd : decode c.code pc = .ok (.areturn, 1)) (hlk : meth.locks = false) {k n : Nat} (hk : cells ≤ k) (hn : slots ≤ n) (hq : Q (some z) T.heap locs) :
    own_Go p.tables e below (T.setTop (mkF m pc Ls (z :: rest))) (own_R s Q k n) := by
  refine own_leave X hlk (fun q => by rw [hret] at q; cases q) hk hn hq fun fs hl => ?_
  have hm' : T.vm.method? m = some meth := X.method'
  show Steps p.tables e below (T.setTop { method := m, pc := pc, locals := Ls, stack := _ :: rest, locked := none }) _
  jvm_step X.here [X.here.top, hx, hd, hm', hret, ht, hz]
  first | (intro acts; rw [hl _ acts rfl rfl rfl]) | rw [hl _ _ rfl rfl rfl]
  exact Steps.refl _
theorem own_retJ (X : Stand p l e R s m args below meth c T locs cells slots) (hx : p.tables.exec = Jvm.exec) {pc : Nat} {Ls : Array Slot} {z : Int64} {rest : List Value} (hret : meth.sig.returnType = some .long) (hd : decode c.code pc = .ok (.lreturn, 1)) (hlk : meth.locks = false) {k n : Nat} (hk : cells ≤ k) (hn : slots ≤ n) (hq : Q (some (.long z)) T.heap locs) :
    own_Go p.tables e below (T.setTop (mkF m pc Ls (.long z :: rest))) (own_R s Q k n) := by
  refine own_leave X hlk (fun q => by rw [hret] at q; cases q) hk hn hq fun fs hl => ?_
  have hm' : T.vm.method? m = some meth := X.method'
  show Steps p.tables e below (T.setTop { method := m, pc := pc, locals := Ls, stack := _ :: rest, locked := none }) _
  jvm_step X.here [X.here.top, hx, hd, hm', hret, narrow]
  first | (intro acts; rw [hl _ acts rfl rfl rfl]) | rw [hl _ _ rfl rfl rfl]
  exact Steps.refl _
theorem own_retV (X : Stand p l e R s m args below meth c T locs cells slots) (hx : p.tables.exec = Jvm.exec) {pc : Nat} {Ls : Array Slot} (hret : meth.sig.returnType = none) (hd : decode c.code pc = .ok (.return_, 1)) (hlk : meth.locks = false) {k n : Nat} (hk : cells ≤ k) (hn : slots ≤ n) (hq : Q none T.heap locs) :
    own_Go p.tables e below (T.setTop (mkF m pc Ls [])) (own_R s Q k n) :=
  own_leave X hlk (fun _ => rfl) hk hn hq fun fs hl => X.returnOut hx hret hd hl
theorem own_callS (X : Stand p l e R s m args below meth c T locs cells slots) (hx : p.tables.exec = Jvm.exec) (hZ : Z.Warmed39 s.vm) {y : MethodName} {bytes : ByteArray} {maxL : Nat} {rt : Option FieldType} {rm : Room} {as' : Array Value}
    (hM : own_Met l y bytes maxL rt [] rm as' Z h Q) {own : String} {index : Nat} (hown : s.vm.findClass own = some m.cls) (w1 : (Cond.methodLink own index y).before a0 Z = true) (w2 : (Cond.static y).before a0 Z = true) (w3 : (Cond.initialized y.cls).before a0 Z = true) (w4 : (Cond.code y bytes maxL rt).before a0 Z = true)
    (hy : y.cls ≠ "java/lang/invoke/MethodHandle" ∧ y.cls ≠ "java/lang/invoke/VarHandle") {W : Nat} (hf : rm.frames + 1 ≤ R.frames) (hl : W + (maxL + 11) + rm.locals ≤ R.locals) {pc : Nat} {Ls : Array Slot} (hsz : Ls.size = c.maxLocals) {argsL rest st : List Value} (ha : argsL.toArray = as')
    (hlen : ∀ sig, parseMethodDescriptor y.desc = some sig → argsL.length = sig.parameters.length) (hst : st = argsL.reverse ++ rest) (hW : (rest.map fun v => v.category).sum ≤ W) (hd : decode c.code pc = .ok (.invokestatic index, 3)) (eT : T.heap = h) (hc : cells + rm.cells ≤ R.cells) (hs : slots + rm.slots ≤ R.slots)
    (k : ∀ (v : Option Value) (T' : State) (L : List Loc), Stand p l e R s m args below meth c T' (locs ++ L) (cells + rm.cells) (slots + rm.slots) → Q v T'.heap L → own_Go p.tables e below (T'.setTop (mkF m (pc + 3) Ls (v.toList ++ rest))) RR) :
    own_Go p.tables e below (T.setTop (mkF m pc Ls st)) RR := by
  subst ha
  obtain ⟨v, _, ⟨T', L', k', n'⟩, -, X', ⟨Lc, hQ, l', y', z'⟩, stp⟩ := Jvm.LawKit.callS X hx (y := y) hown (mvT hZ w1) (mvT hZ w2) (mvT hZ w3) (mvT hZ w4) hy (backOf (W := W) hM hZ w4 w3 hf hl) (g := mkF m pc Ls st) rfl hsz (argsL := argsL) (rest := rest) hlen hst (by show 2 * 0 + _ ≤ _; omega) hd (fun _ _ => ⟨rfl, eT, hc, hs⟩)
  dsimp only [Pt.U, Pt.locs, Pt.cells, Pt.slots] at X' l' y' z' stp hQ
  subst l' y' z'
  exact own_st stp (k v T' Lc X' hQ)
theorem own_callV (X : Stand p l e R s m args below meth c T locs cells slots) (hx : p.tables.exec = Jvm.exec) (hZ : Z.Warmed39 s.vm) {y : MethodName} {bytes : ByteArray} {maxL : Nat} {rt : Option FieldType} {rm : Room} {as' : Array Value}
    (hM : own_Met l y bytes maxL rt [] rm as' Z h Q) {own C : String} {index : Nat} (hown : s.vm.findClass own = some m.cls) (w1 : (Cond.methodLink own index y).before a0 Z = true) (w2 : (Cond.declares y).before a0 Z = true) (w3 : (Cond.selects C y y).before a0 Z = true) (w4 : (Cond.instanceMethod y).before a0 Z = true) (w5 : (Cond.code y bytes maxL rt).before a0 Z = true) (w6 : (Cond.initialized y.cls).before a0 Z = true)
    (hy : y.cls ≠ "java/lang/invoke/MethodHandle" ∧ y.cls ≠ "java/lang/invoke/VarHandle") {a : Addr} (E : Exa Z h a C) {W : Nat} (hf : rm.frames + 1 ≤ R.frames) (hl : W + (maxL + 11) + rm.locals ≤ R.locals) {pc : Nat} {Ls : Array Slot} (hsz : Ls.size = c.maxLocals) {argsL rest st : List Value} (ha : (Value.ref a :: argsL).toArray = as')
    (hlen : ∀ sig, parseMethodDescriptor y.desc = some sig → argsL.length = sig.parameters.length) (hst : st = argsL.reverse ++ .ref a :: rest) (hW : (rest.map fun v => v.category).sum ≤ W) (hd : decode c.code pc = .ok (.invokevirtual index, 3)) (eT : T.heap = h) (hc : cells + rm.cells ≤ R.cells) (hs : slots + rm.slots ≤ R.slots)
    (k : ∀ (v : Option Value) (T' : State) (L : List Loc), Stand p l e R s m args below meth c T' (locs ++ L) (cells + rm.cells) (slots + rm.slots) → Q v T'.heap L → own_Go p.tables e below (T'.setTop (mkF m (pc + 3) Ls (v.toList ++ rest))) RR) :
    own_Go p.tables e below (T.setTop (mkF m pc Ls st)) RR := by
  subst ha
  obtain ⟨cB, kB, qa, qb, qc⟩ := isOf hZ eT E
  obtain ⟨v, _, ⟨T', L', k', n'⟩, -, X', ⟨Lc, hQ, l', y', z'⟩, stp⟩ := X.virtualBack hx (y := y) (z := y) hown (mvT hZ w1) (mvT hZ w2) (notFace_of_selects (args := #[]) (mvT hZ w3)) (mvT hZ w3) (mvT hZ w4) hy (backOf (W := W) hM hZ w5 w6 hf hl) qa qc (g := mkF m pc Ls st) rfl hsz (Steps.refl _) (argsL := argsL) (rest := rest) hlen hst (by show 2 * 0 + _ ≤ _; omega) hd (fun _ _ => ⟨rfl, eT, hc, hs⟩)
  dsimp only [Pt.U, Pt.locs, Pt.cells, Pt.slots] at X' l' y' z' stp hQ
  subst l' y' z'
  exact own_st (fun t k => stp.trans k) (k v T' Lc X' hQ)
theorem own_callVU (X : Stand p l e R s m args below meth c T locs cells slots) (hx : p.tables.exec = Jvm.exec) (hZ : Z.Warmed39 s.vm) {x y : MethodName} {bytes : ByteArray} {maxL : Nat} {rt : Option FieldType} {rm : Room} {as' : Array Value}
    (hM : own_Met l y bytes maxL rt [] rm as' Z h Q) {own C owner : String} {index : Nat} (hown : s.vm.findClass own = some m.cls) (w1 : (Cond.methodLink own index x).before a0 Z = true) (w1' : (Cond.sameMethod x.cls owner x.name x.desc).before a0 Z = true) (w2 : (Cond.declares ⟨owner, x.name, x.desc⟩).before a0 Z = true) (w3 : (Cond.selects C x y).before a0 Z = true) (w4 : (Cond.instanceMethod y).before a0 Z = true) (w5 : (Cond.code y bytes maxL rt).before a0 Z = true) (w6 : (Cond.initialized y.cls).before a0 Z = true)
    (hy : owner ≠ "java/lang/invoke/MethodHandle" ∧ owner ≠ "java/lang/invoke/VarHandle") {a : Addr} (E : Exa Z h a C) {W : Nat} (hf : rm.frames + 1 ≤ R.frames) (hl : W + (maxL + 11) + rm.locals ≤ R.locals) {pc : Nat} {Ls : Array Slot} (hsz : Ls.size = c.maxLocals) {argsL rest st : List Value} (ha : (Value.ref a :: argsL).toArray = as')
    (hlen : ∀ sig, parseMethodDescriptor x.desc = some sig → argsL.length = sig.parameters.length) (hst : st = argsL.reverse ++ .ref a :: rest) (hW : (rest.map fun v => v.category).sum ≤ W) (hd : decode c.code pc = .ok (.invokevirtual index, 3)) (eT : T.heap = h) (hc : cells + rm.cells ≤ R.cells) (hs : slots + rm.slots ≤ R.slots)
    (k : ∀ (v : Option Value) (T' : State) (L : List Loc), Stand p l e R s m args below meth c T' (locs ++ L) (cells + rm.cells) (slots + rm.slots) → Q v T'.heap L → own_Go p.tables e below (T'.setTop (mkF m (pc + 3) Ls (v.toList ++ rest))) RR) :
    own_Go p.tables e below (T.setTop (mkF m pc Ls st)) RR := by
  subst ha
  obtain ⟨cB, kB, qa, qb, qc⟩ := isOf hZ eT E
  obtain ⟨v, _, ⟨T', L', k', n'⟩, -, X', ⟨Lc, hQ, l', y', z'⟩, stp⟩ := X.virtualBackUp hx hown (mvT hZ w1) (mvT hZ w1') (mvT hZ w2) hy (mvT hZ w3) (mvT hZ w4) (backOf (W := W) hM hZ w5 w6 hf hl) qa qc (g := mkF m pc Ls st) rfl hsz (Steps.refl _) (argsL := argsL) (rest := rest) hlen hst (by show 2 * 0 + _ ≤ _; omega) hd (fun _ _ => ⟨rfl, eT, hc, hs⟩)
  dsimp only [Pt.U, Pt.locs, Pt.cells, Pt.slots] at X' l' y' z' stp hQ
  subst l' y' z'
  exact own_st (fun t k => stp.trans k) (k v T' Lc X' hQ)
theorem own_iload (X : Stand p l e R s m args below meth c T locs cells slots) (hx : p.tables.exec = Jvm.exec) {B : ByteArray} (hby : c.code = B) {pc pc' : Nat} {Ls : Array Slot} {S : List Value} {k : Nat} {v : Int32} (hd : decode B pc = .ok (.iload k, 2)) (hp : pc + 2 = pc') (hl : Ls[k]? = some (.val (.int v))) (g : own_Go p.tables e below (T.setTop (mkF m pc' Ls (.int v :: S))) RR) : own_Go p.tables e below (T.setTop (mkF m pc Ls S)) RR := by
  subst hp
  exact own_st (fun t k => XS.iload X.here hx rfl (hb hby hd) hl k) g
theorem own_iloadN (X : Stand p l e R s m args below meth c T locs cells slots) (hx : p.tables.exec = Jvm.exec) {B : ByteArray} (hby : c.code = B) {pc pc' : Nat} {Ls : Array Slot} {S : List Value} {k : Fin 4} {v : Int32} (hd : decode B pc = .ok (.iload_n k, 1)) (hp : pc + 1 = pc') (hl : Ls[k.val]? = some (.val (.int v))) (g : own_Go p.tables e below (T.setTop (mkF m pc' Ls (.int v :: S))) RR) : own_Go p.tables e below (T.setTop (mkF m pc Ls S)) RR := by
  subst hp
  exact own_st (fun t k => XS.iloadN X.here hx rfl (hb hby hd) hl k) g
theorem own_lload (X : Stand p l e R s m args below meth c T locs cells slots) (hx : p.tables.exec = Jvm.exec) {B : ByteArray} (hby : c.code = B) {pc pc' : Nat} {Ls : Array Slot} {S : List Value} {k : Nat} {v : Int64} (hd : decode B pc = .ok (.lload k, 2)) (hp : pc + 2 = pc') (hl : Ls[k]? = some (.val (.long v))) (g : own_Go p.tables e below (T.setTop (mkF m pc' Ls (.long v :: S))) RR) : own_Go p.tables e below (T.setTop (mkF m pc Ls S)) RR := by
  subst hp
  exact own_st (fun t k => XS.lload X.here hx rfl (hb hby hd) hl k) g
theorem own_lloadN (X : Stand p l e R s m args below meth c T locs cells slots) (hx : p.tables.exec = Jvm.exec) {B : ByteArray} (hby : c.code = B) {pc pc' : Nat} {Ls : Array Slot} {S : List Value} {k : Fin 4} {v : Int64} (hd : decode B pc = .ok (.lload_n k, 1)) (hp : pc + 1 = pc') (hl : Ls[k.val]? = some (.val (.long v))) (g : own_Go p.tables e below (T.setTop (mkF m pc' Ls (.long v :: S))) RR) : own_Go p.tables e below (T.setTop (mkF m pc Ls S)) RR := by
  subst hp
  exact own_st (fun t k => XS.lloadN X.here hx rfl (hb hby hd) hl k) g
theorem own_aload (X : Stand p l e R s m args below meth c T locs cells slots) (hx : p.tables.exec = Jvm.exec) {B : ByteArray} (hby : c.code = B) {pc pc' : Nat} {Ls : Array Slot} {S : List Value} {k : Nat} {v : Value} (hd : decode B pc = .ok (.aload k, 2)) (hp : pc + 2 = pc') (hl : Ls[k]? = some (.val v)) (hv : v.isRef = true) (g : own_Go p.tables e below (T.setTop (mkF m pc' Ls (v :: S))) RR) : own_Go p.tables e below (T.setTop (mkF m pc Ls S)) RR := by
  subst hp
  exact own_st (fun t k => XS.aload X.here hx rfl (hb hby hd) hl hv k) g
theorem own_aloadN (X : Stand p l e R s m args below meth c T locs cells slots) (hx : p.tables.exec = Jvm.exec) {B : ByteArray} (hby : c.code = B) {pc pc' : Nat} {Ls : Array Slot} {S : List Value} {k : Fin 4} {v : Value} (hd : decode B pc = .ok (.aload_n k, 1)) (hp : pc + 1 = pc') (hl : Ls[k.val]? = some (.val v)) (hv : v.isRef = true) (g : own_Go p.tables e below (T.setTop (mkF m pc' Ls (v :: S))) RR) : own_Go p.tables e below (T.setTop (mkF m pc Ls S)) RR := by
  subst hp
  exact own_st (fun t k => XS.aloadN X.here hx rfl (hb hby hd) hl hv k) g
theorem own_istore (X : Stand p l e R s m args below meth c T locs cells slots) (hx : p.tables.exec = Jvm.exec) {B : ByteArray} (hby : c.code = B) {pc pc' : Nat} {Ls : Array Slot} {S : List Value} {k : Nat} {v : Int32} {Ls' : Array Slot} (hd : decode B pc = .ok (.istore k, 2)) (hp : pc + 2 = pc') (hl : storeLocals Ls k (.int v) = some Ls') (g : own_Go p.tables e below (T.setTop (mkF m pc' Ls' S)) RR) : own_Go p.tables e below (T.setTop (mkF m pc Ls (.int v :: S))) RR := by
  subst hp
  exact own_st (fun t k => XS.istore X.here hx rfl (hb hby hd) rfl hl k) g
theorem own_istoreN (X : Stand p l e R s m args below meth c T locs cells slots) (hx : p.tables.exec = Jvm.exec) {B : ByteArray} (hby : c.code = B) {pc pc' : Nat} {Ls : Array Slot} {S : List Value} {k : Fin 4} {v : Int32} {Ls' : Array Slot} (hd : decode B pc = .ok (.istore_n k, 1)) (hp : pc + 1 = pc') (hl : storeLocals Ls k.val (.int v) = some Ls') (g : own_Go p.tables e below (T.setTop (mkF m pc' Ls' S)) RR) : own_Go p.tables e below (T.setTop (mkF m pc Ls (.int v :: S))) RR := by
  subst hp
  exact own_st (fun t k => XS.istoreN X.here hx rfl (hb hby hd) rfl hl k) g
theorem own_lstore (X : Stand p l e R s m args below meth c T locs cells slots) (hx : p.tables.exec = Jvm.exec) {B : ByteArray} (hby : c.code = B) {pc pc' : Nat} {Ls : Array Slot} {S : List Value} {k : Nat} {v : Int64} {Ls' : Array Slot} (hd : decode B pc = .ok (.lstore k, 2)) (hp : pc + 2 = pc') (hl : storeLocals Ls k (.long v) = some Ls') (g : own_Go p.tables e below (T.setTop (mkF m pc' Ls' S)) RR) : own_Go p.tables e below (T.setTop (mkF m pc Ls (.long v :: S))) RR := by
  subst hp
  exact own_st (fun t k => XS.lstore X.here hx rfl (hb hby hd) rfl hl k) g
theorem own_lstoreN (X : Stand p l e R s m args below meth c T locs cells slots) (hx : p.tables.exec = Jvm.exec) {B : ByteArray} (hby : c.code = B) {pc pc' : Nat} {Ls : Array Slot} {S : List Value} {k : Fin 4} {v : Int64} {Ls' : Array Slot} (hd : decode B pc = .ok (.lstore_n k, 1)) (hp : pc + 1 = pc') (hl : storeLocals Ls k.val (.long v) = some Ls') (g : own_Go p.tables e below (T.setTop (mkF m pc' Ls' S)) RR) : own_Go p.tables e below (T.setTop (mkF m pc Ls (.long v :: S))) RR := by
  subst hp
  exact own_st (fun t k => XS.lstoreN X.here hx rfl (hb hby hd) rfl hl k) g
theorem own_astore (X : Stand p l e R s m args below meth c T locs cells slots) (hx : p.tables.exec = Jvm.exec) {B : ByteArray} (hby : c.code = B) {pc pc' : Nat} {Ls : Array Slot} {S : List Value} {k : Nat} {v : Value} {Ls' : Array Slot} (hd : decode B pc = .ok (.astore k, 2)) (hp : pc + 2 = pc') (hv : v.isRef = true) (hl : storeLocals Ls k v = some Ls') (g : own_Go p.tables e below (T.setTop (mkF m pc' Ls' S)) RR) : own_Go p.tables e below (T.setTop (mkF m pc Ls (v :: S))) RR := by
  subst hp
  exact own_st (fun t k => XS.astore X.here hx rfl (hb hby hd) rfl hv hl k) g
theorem own_astoreN (X : Stand p l e R s m args below meth c T locs cells slots) (hx : p.tables.exec = Jvm.exec) {B : ByteArray} (hby : c.code = B) {pc pc' : Nat} {Ls : Array Slot} {S : List Value} {k : Fin 4} {v : Value} {Ls' : Array Slot} (hd : decode B pc = .ok (.astore_n k, 1)) (hp : pc + 1 = pc') (hv : v.isRef = true) (hl : storeLocals Ls k.val v = some Ls') (g : own_Go p.tables e below (T.setTop (mkF m pc' Ls' S)) RR) : own_Go p.tables e below (T.setTop (mkF m pc Ls (v :: S))) RR := by
  subst hp
  exact own_st (fun t k => XS.astoreN X.here hx rfl (hb hby hd) rfl hv hl k) g
theorem own_iconst (X : Stand p l e R s m args below meth c T locs cells slots) (hx : p.tables.exec = Jvm.exec) {B : ByteArray} (hby : c.code = B) {pc pc' : Nat} {Ls : Array Slot} {S : List Value} {i : Int} {z : Int32} (hd : decode B pc = .ok (.iconst i, 1)) (hp : pc + 1 = pc') (hz : Int32.ofInt i = z) (g : own_Go p.tables e below (T.setTop (mkF m pc' Ls (.int z :: S))) RR) : own_Go p.tables e below (T.setTop (mkF m pc Ls S)) RR := by
  subst hp
  subst hz
  exact own_st (fun t k => XS.iconst X.here hx rfl (hb hby hd) k) g
theorem own_bipush (X : Stand p l e R s m args below meth c T locs cells slots) (hx : p.tables.exec = Jvm.exec) {B : ByteArray} (hby : c.code = B) {pc pc' : Nat} {Ls : Array Slot} {S : List Value} {i : Int} {z : Int32} (hd : decode B pc = .ok (.bipush i, 2)) (hp : pc + 2 = pc') (hz : (Int8.ofInt i).toInt32 = z) (g : own_Go p.tables e below (T.setTop (mkF m pc' Ls (.int z :: S))) RR) : own_Go p.tables e below (T.setTop (mkF m pc Ls S)) RR := by
  subst hp
  subst hz
  exact own_st (fun t k => XS.bipush X.here hx rfl (hb hby hd) k) g
theorem own_sipush (X : Stand p l e R s m args below meth c T locs cells slots) (hx : p.tables.exec = Jvm.exec) {B : ByteArray} (hby : c.code = B) {pc pc' : Nat} {Ls : Array Slot} {S : List Value} {i : Int} {z : Int32} (hd : decode B pc = .ok (.sipush i, 3)) (hp : pc + 3 = pc') (hz : (Int16.ofInt i).toInt32 = z) (g : own_Go p.tables e below (T.setTop (mkF m pc' Ls (.int z :: S))) RR) : own_Go p.tables e below (T.setTop (mkF m pc Ls S)) RR := by
  subst hp
  subst hz
  exact own_st (fun t k => XS.sipush X.here hx rfl (hb hby hd) k) g
theorem own_lconst (X : Stand p l e R s m args below meth c T locs cells slots) (hx : p.tables.exec = Jvm.exec) {B : ByteArray} (hby : c.code = B) {pc pc' : Nat} {Ls : Array Slot} {S : List Value} {k : Fin 2} {z : Int64} (hd : decode B pc = .ok (.lconst k, 1)) (hp : pc + 1 = pc') (hz : Int64.ofNat k = z) (g : own_Go p.tables e below (T.setTop (mkF m pc' Ls (.long z :: S))) RR) : own_Go p.tables e below (T.setTop (mkF m pc Ls S)) RR := by
  subst hp
  subst hz
  exact own_st (fun t k => XS.lconst X.here hx rfl (hb hby hd) k) g
theorem own_aconst_null (X : Stand p l e R s m args below meth c T locs cells slots) (hx : p.tables.exec = Jvm.exec) {B : ByteArray} (hby : c.code = B) {pc pc' : Nat} {Ls : Array Slot} {S : List Value}  (hd : decode B pc = .ok (.aconst_null, 1)) (hp : pc + 1 = pc')  (g : own_Go p.tables e below (T.setTop (mkF m pc' Ls (.null :: S))) RR) : own_Go p.tables e below (T.setTop (mkF m pc Ls S)) RR := by
  subst hp
  exact own_st (fun t k => XS.aconstNull X.here hx rfl (hb hby hd) k) g
theorem own_iadd (X : Stand p l e R s m args below meth c T locs cells slots) (hx : p.tables.exec = Jvm.exec) {B : ByteArray} (hby : c.code = B) {pc pc' : Nat} {Ls : Array Slot} {S : List Value} {x y z : Int32} (hd : decode B pc = .ok (.iadd, 1)) (hp : pc + 1 = pc') (hz : x + y = z) (g : own_Go p.tables e below (T.setTop (mkF m pc' Ls (.int z :: S))) RR) : own_Go p.tables e below (T.setTop (mkF m pc Ls (.int y :: .int x :: S))) RR := by
  subst hp
  subst hz
  exact own_st (fun t k => XS.iadd X.here hx rfl (hb hby hd) rfl k) g
theorem own_ladd (X : Stand p l e R s m args below meth c T locs cells slots) (hx : p.tables.exec = Jvm.exec) {B : ByteArray} (hby : c.code = B) {pc pc' : Nat} {Ls : Array Slot} {S : List Value} {x y z : Int64} (hd : decode B pc = .ok (.ladd, 1)) (hp : pc + 1 = pc') (hz : x + y = z) (g : own_Go p.tables e below (T.setTop (mkF m pc' Ls (.long z :: S))) RR) : own_Go p.tables e below (T.setTop (mkF m pc Ls (.long y :: .long x :: S))) RR := by
  subst hp
  subst hz
  exact own_st (fun t k => XS.ladd X.here hx rfl (hb hby hd) rfl k) g
theorem own_isub (X : Stand p l e R s m args below meth c T locs cells slots) (hx : p.tables.exec = Jvm.exec) {B : ByteArray} (hby : c.code = B) {pc pc' : Nat} {Ls : Array Slot} {S : List Value} {x y z : Int32} (hd : decode B pc = .ok (.isub, 1)) (hp : pc + 1 = pc') (hz : x - y = z) (g : own_Go p.tables e below (T.setTop (mkF m pc' Ls (.int z :: S))) RR) : own_Go p.tables e below (T.setTop (mkF m pc Ls (.int y :: .int x :: S))) RR := by
  subst hp
  subst hz
  exact own_st (fun t k => XS.isub X.here hx rfl (hb hby hd) rfl k) g
theorem own_lsub (X : Stand p l e R s m args below meth c T locs cells slots) (hx : p.tables.exec = Jvm.exec) {B : ByteArray} (hby : c.code = B) {pc pc' : Nat} {Ls : Array Slot} {S : List Value} {x y z : Int64} (hd : decode B pc = .ok (.lsub, 1)) (hp : pc + 1 = pc') (hz : x - y = z) (g : own_Go p.tables e below (T.setTop (mkF m pc' Ls (.long z :: S))) RR) : own_Go p.tables e below (T.setTop (mkF m pc Ls (.long y :: .long x :: S))) RR := by
  subst hp
  subst hz
  exact own_st (fun t k => XS.lsub X.here hx rfl (hb hby hd) rfl k) g
theorem own_imul (X : Stand p l e R s m args below meth c T locs cells slots) (hx : p.tables.exec = Jvm.exec) {B : ByteArray} (hby : c.code = B) {pc pc' : Nat} {Ls : Array Slot} {S : List Value} {x y z : Int32} (hd : decode B pc = .ok (.imul, 1)) (hp : pc + 1 = pc') (hz : x * y = z) (g : own_Go p.tables e below (T.setTop (mkF m pc' Ls (.int z :: S))) RR) : own_Go p.tables e below (T.setTop (mkF m pc Ls (.int y :: .int x :: S))) RR := by
  subst hp
  subst hz
  exact own_st (fun t k => XS.imul X.here hx rfl (hb hby hd) rfl k) g
theorem own_lmul (X : Stand p l e R s m args below meth c T locs cells slots) (hx : p.tables.exec = Jvm.exec) {B : ByteArray} (hby : c.code = B) {pc pc' : Nat} {Ls : Array Slot} {S : List Value} {x y z : Int64} (hd : decode B pc = .ok (.lmul, 1)) (hp : pc + 1 = pc') (hz : x * y = z) (g : own_Go p.tables e below (T.setTop (mkF m pc' Ls (.long z :: S))) RR) : own_Go p.tables e below (T.setTop (mkF m pc Ls (.long y :: .long x :: S))) RR := by
  subst hp
  subst hz
  exact own_st (fun t k => XS.lmul X.here hx rfl (hb hby hd) rfl k) g
theorem own_iand (X : Stand p l e R s m args below meth c T locs cells slots) (hx : p.tables.exec = Jvm.exec) {B : ByteArray} (hby : c.code = B) {pc pc' : Nat} {Ls : Array Slot} {S : List Value} {x y z : Int32} (hd : decode B pc = .ok (.iand, 1)) (hp : pc + 1 = pc') (hz : x &&& y = z) (g : own_Go p.tables e below (T.setTop (mkF m pc' Ls (.int z :: S))) RR) : own_Go p.tables e below (T.setTop (mkF m pc Ls (.int y :: .int x :: S))) RR := by
  subst hp
  subst hz
  exact own_st (fun t k => XS.iand X.here hx rfl (hb hby hd) rfl k) g
theorem own_land (X : Stand p l e R s m args below meth c T locs cells slots) (hx : p.tables.exec = Jvm.exec) {B : ByteArray} (hby : c.code = B) {pc pc' : Nat} {Ls : Array Slot} {S : List Value} {x y z : Int64} (hd : decode B pc = .ok (.land, 1)) (hp : pc + 1 = pc') (hz : x &&& y = z) (g : own_Go p.tables e below (T.setTop (mkF m pc' Ls (.long z :: S))) RR) : own_Go p.tables e below (T.setTop (mkF m pc Ls (.long y :: .long x :: S))) RR := by
  subst hp
  subst hz
  exact own_st (fun t k => XS.land X.here hx rfl (hb hby hd) rfl k) g
theorem own_ior (X : Stand p l e R s m args below meth c T locs cells slots) (hx : p.tables.exec = Jvm.exec) {B : ByteArray} (hby : c.code = B) {pc pc' : Nat} {Ls : Array Slot} {S : List Value} {x y z : Int32} (hd : decode B pc = .ok (.ior, 1)) (hp : pc + 1 = pc') (hz : x ||| y = z) (g : own_Go p.tables e below (T.setTop (mkF m pc' Ls (.int z :: S))) RR) : own_Go p.tables e below (T.setTop (mkF m pc Ls (.int y :: .int x :: S))) RR := by
  subst hp
  subst hz
  exact own_st (fun t k => XS.ior X.here hx rfl (hb hby hd) rfl k) g
theorem own_lor (X : Stand p l e R s m args below meth c T locs cells slots) (hx : p.tables.exec = Jvm.exec) {B : ByteArray} (hby : c.code = B) {pc pc' : Nat} {Ls : Array Slot} {S : List Value} {x y z : Int64} (hd : decode B pc = .ok (.lor, 1)) (hp : pc + 1 = pc') (hz : x ||| y = z) (g : own_Go p.tables e below (T.setTop (mkF m pc' Ls (.long z :: S))) RR) : own_Go p.tables e below (T.setTop (mkF m pc Ls (.long y :: .long x :: S))) RR := by
  subst hp
  subst hz
  exact own_st (fun t k => XS.lor X.here hx rfl (hb hby hd) rfl k) g
theorem own_ixor (X : Stand p l e R s m args below meth c T locs cells slots) (hx : p.tables.exec = Jvm.exec) {B : ByteArray} (hby : c.code = B) {pc pc' : Nat} {Ls : Array Slot} {S : List Value} {x y z : Int32} (hd : decode B pc = .ok (.ixor, 1)) (hp : pc + 1 = pc') (hz : x ^^^ y = z) (g : own_Go p.tables e below (T.setTop (mkF m pc' Ls (.int z :: S))) RR) : own_Go p.tables e below (T.setTop (mkF m pc Ls (.int y :: .int x :: S))) RR := by
  subst hp
  subst hz
  exact own_st (fun t k => XS.ixor X.here hx rfl (hb hby hd) rfl k) g
theorem own_lxor (X : Stand p l e R s m args below meth c T locs cells slots) (hx : p.tables.exec = Jvm.exec) {B : ByteArray} (hby : c.code = B) {pc pc' : Nat} {Ls : Array Slot} {S : List Value} {x y z : Int64} (hd : decode B pc = .ok (.lxor, 1)) (hp : pc + 1 = pc') (hz : x ^^^ y = z) (g : own_Go p.tables e below (T.setTop (mkF m pc' Ls (.long z :: S))) RR) : own_Go p.tables e below (T.setTop (mkF m pc Ls (.long y :: .long x :: S))) RR := by
  subst hp
  subst hz
  exact own_st (fun t k => XS.lxor X.here hx rfl (hb hby hd) rfl k) g
theorem own_ishl (X : Stand p l e R s m args below meth c T locs cells slots) (hx : p.tables.exec = Jvm.exec) {B : ByteArray} (hby : c.code = B) {pc pc' : Nat} {Ls : Array Slot} {S : List Value} {x y z : Int32} (hd : decode B pc = .ok (.ishl, 1)) (hp : pc + 1 = pc') (hz : x <<< (y &&& 31) = z) (g : own_Go p.tables e below (T.setTop (mkF m pc' Ls (.int z :: S))) RR) : own_Go p.tables e below (T.setTop (mkF m pc Ls (.int y :: .int x :: S))) RR := by
  subst hp
  subst hz
  exact own_st (fun t k => XS.ishl X.here hx rfl (hb hby hd) rfl k) g
theorem own_ishr (X : Stand p l e R s m args below meth c T locs cells slots) (hx : p.tables.exec = Jvm.exec) {B : ByteArray} (hby : c.code = B) {pc pc' : Nat} {Ls : Array Slot} {S : List Value} {x y z : Int32} (hd : decode B pc = .ok (.ishr, 1)) (hp : pc + 1 = pc') (hz : x >>> (y &&& 31) = z) (g : own_Go p.tables e below (T.setTop (mkF m pc' Ls (.int z :: S))) RR) : own_Go p.tables e below (T.setTop (mkF m pc Ls (.int y :: .int x :: S))) RR := by
  subst hp
  subst hz
  exact own_st (fun t k => XS.ishr X.here hx rfl (hb hby hd) rfl k) g
theorem own_iushr (X : Stand p l e R s m args below meth c T locs cells slots) (hx : p.tables.exec = Jvm.exec) {B : ByteArray} (hby : c.code = B) {pc pc' : Nat} {Ls : Array Slot} {S : List Value} {x y z : Int32} (hd : decode B pc = .ok (.iushr, 1)) (hp : pc + 1 = pc') (hz : (x.toUInt32 >>> (y &&& 31).toUInt32).toInt32 = z) (g : own_Go p.tables e below (T.setTop (mkF m pc' Ls (.int z :: S))) RR) : own_Go p.tables e below (T.setTop (mkF m pc Ls (.int y :: .int x :: S))) RR := by
  subst hp
  subst hz
  exact own_st (fun t k => XS.iushr X.here hx rfl (hb hby hd) rfl k) g
theorem own_lshl (X : Stand p l e R s m args below meth c T locs cells slots) (hx : p.tables.exec = Jvm.exec) {B : ByteArray} (hby : c.code = B) {pc pc' : Nat} {Ls : Array Slot} {S : List Value} {x z : Int64} {y : Int32} (hd : decode B pc = .ok (.lshl, 1)) (hp : pc + 1 = pc') (hz : x <<< (y &&& 0x3f).toInt64 = z) (g : own_Go p.tables e below (T.setTop (mkF m pc' Ls (.long z :: S))) RR) : own_Go p.tables e below (T.setTop (mkF m pc Ls (.int y :: .long x :: S))) RR := by
  subst hp
  subst hz
  exact own_st (fun t k => XS.lshl X.here hx rfl (hb hby hd) rfl k) g
theorem own_lshr (X : Stand p l e R s m args below meth c T locs cells slots) (hx : p.tables.exec = Jvm.exec) {B : ByteArray} (hby : c.code = B) {pc pc' : Nat} {Ls : Array Slot} {S : List Value} {x z : Int64} {y : Int32} (hd : decode B pc = .ok (.lshr, 1)) (hp : pc + 1 = pc') (hz : x >>> (y &&& 0x3f).toInt64 = z) (g : own_Go p.tables e below (T.setTop (mkF m pc' Ls (.long z :: S))) RR) : own_Go p.tables e below (T.setTop (mkF m pc Ls (.int y :: .long x :: S))) RR := by
  subst hp
  subst hz
  exact own_st (fun t k => XS.lshr X.here hx rfl (hb hby hd) rfl k) g
theorem own_lushr (X : Stand p l e R s m args below meth c T locs cells slots) (hx : p.tables.exec = Jvm.exec) {B : ByteArray} (hby : c.code = B) {pc pc' : Nat} {Ls : Array Slot} {S : List Value} {x z : Int64} {y : Int32} (hd : decode B pc = .ok (.lushr, 1)) (hp : pc + 1 = pc') (hz : (x.toUInt64 >>> (y &&& 0x3f).toInt64.toUInt64).toInt64 = z) (g : own_Go p.tables e below (T.setTop (mkF m pc' Ls (.long z :: S))) RR) : own_Go p.tables e below (T.setTop (mkF m pc Ls (.int y :: .long x :: S))) RR := by
  subst hp
  subst hz
  exact own_st (fun t k => XS.lushr X.here hx rfl (hb hby hd) rfl k) g
theorem own_ineg (X : Stand p l e R s m args below meth c T locs cells slots) (hx : p.tables.exec = Jvm.exec) {B : ByteArray} (hby : c.code = B) {pc pc' : Nat} {Ls : Array Slot} {S : List Value} {x : Int32} {z : Int32} (hd : decode B pc = .ok (.ineg, 1)) (hp : pc + 1 = pc') (hz : -x = z) (g : own_Go p.tables e below (T.setTop (mkF m pc' Ls (.int z :: S))) RR) : own_Go p.tables e below (T.setTop (mkF m pc Ls (.int x :: S))) RR := by
  subst hp
  subst hz
  exact own_st (fun t k => XS.ineg X.here hx rfl (hb hby hd) rfl k) g
theorem own_lneg (X : Stand p l e R s m args below meth c T locs cells slots) (hx : p.tables.exec = Jvm.exec) {B : ByteArray} (hby : c.code = B) {pc pc' : Nat} {Ls : Array Slot} {S : List Value} {x : Int64} {z : Int64} (hd : decode B pc = .ok (.lneg, 1)) (hp : pc + 1 = pc') (hz : -x = z) (g : own_Go p.tables e below (T.setTop (mkF m pc' Ls (.long z :: S))) RR) : own_Go p.tables e below (T.setTop (mkF m pc Ls (.long x :: S))) RR := by
  subst hp
  subst hz
  exact own_st (fun t k => XS.lneg X.here hx rfl (hb hby hd) rfl k) g
theorem own_i2l (X : Stand p l e R s m args below meth c T locs cells slots) (hx : p.tables.exec = Jvm.exec) {B : ByteArray} (hby : c.code = B) {pc pc' : Nat} {Ls : Array Slot} {S : List Value} {x : Int32} {z : Int64} (hd : decode B pc = .ok (.i2l, 1)) (hp : pc + 1 = pc') (hz : x.toInt64 = z) (g : own_Go p.tables e below (T.setTop (mkF m pc' Ls (.long z :: S))) RR) : own_Go p.tables e below (T.setTop (mkF m pc Ls (.int x :: S))) RR := by
  subst hp
  subst hz
  exact own_st (fun t k => XS.i2l X.here hx rfl (hb hby hd) rfl k) g
theorem own_l2i (X : Stand p l e R s m args below meth c T locs cells slots) (hx : p.tables.exec = Jvm.exec) {B : ByteArray} (hby : c.code = B) {pc pc' : Nat} {Ls : Array Slot} {S : List Value} {x : Int64} {z : Int32} (hd : decode B pc = .ok (.l2i, 1)) (hp : pc + 1 = pc') (hz : x.toInt32 = z) (g : own_Go p.tables e below (T.setTop (mkF m pc' Ls (.int z :: S))) RR) : own_Go p.tables e below (T.setTop (mkF m pc Ls (.long x :: S))) RR := by
  subst hp
  subst hz
  exact own_st (fun t k => XS.l2i X.here hx rfl (hb hby hd) rfl k) g
theorem own_i2b (X : Stand p l e R s m args below meth c T locs cells slots) (hx : p.tables.exec = Jvm.exec) {B : ByteArray} (hby : c.code = B) {pc pc' : Nat} {Ls : Array Slot} {S : List Value} {x : Int32} {z : Int32} (hd : decode B pc = .ok (.i2b, 1)) (hp : pc + 1 = pc') (hz : x.toInt8.toInt32 = z) (g : own_Go p.tables e below (T.setTop (mkF m pc' Ls (.int z :: S))) RR) : own_Go p.tables e below (T.setTop (mkF m pc Ls (.int x :: S))) RR := by
  subst hp
  subst hz
  exact own_st (fun t k => XS.i2b X.here hx rfl (hb hby hd) rfl k) g
theorem own_i2s (X : Stand p l e R s m args below meth c T locs cells slots) (hx : p.tables.exec = Jvm.exec) {B : ByteArray} (hby : c.code = B) {pc pc' : Nat} {Ls : Array Slot} {S : List Value} {x : Int32} {z : Int32} (hd : decode B pc = .ok (.i2s, 1)) (hp : pc + 1 = pc') (hz : x.toInt16.toInt32 = z) (g : own_Go p.tables e below (T.setTop (mkF m pc' Ls (.int z :: S))) RR) : own_Go p.tables e below (T.setTop (mkF m pc Ls (.int x :: S))) RR := by
  subst hp
  subst hz
  exact own_st (fun t k => XS.i2s X.here hx rfl (hb hby hd) rfl k) g
theorem own_i2c (X : Stand p l e R s m args below meth c T locs cells slots) (hx : p.tables.exec = Jvm.exec) {B : ByteArray} (hby : c.code = B) {pc pc' : Nat} {Ls : Array Slot} {S : List Value} {x : Int32} {z : Int32} (hd : decode B pc = .ok (.i2c, 1)) (hp : pc + 1 = pc') (hz : x.toUInt32.toUInt16.toUInt32.toInt32 = z) (g : own_Go p.tables e below (T.setTop (mkF m pc' Ls (.int z :: S))) RR) : own_Go p.tables e below (T.setTop (mkF m pc Ls (.int x :: S))) RR := by
  subst hp
  subst hz
  exact own_st (fun t k => XS.i2c X.here hx rfl (hb hby hd) rfl k) g
theorem own_idiv (X : Stand p l e R s m args below meth c T locs cells slots) (hx : p.tables.exec = Jvm.exec) {B : ByteArray} (hby : c.code = B) {pc pc' : Nat} {Ls : Array Slot} {S : List Value} {x y z : Int32} (hd : decode B pc = .ok (.idiv, 1)) (hp : pc + 1 = pc') (hy : y ≠ 0) (hz : x / y = z) (g : own_Go p.tables e below (T.setTop (mkF m pc' Ls (.int z :: S))) RR) : own_Go p.tables e below (T.setTop (mkF m pc Ls (.int y :: .int x :: S))) RR := by
  subst hp
  subst hz
  exact own_st (fun t k => XS.idiv X.here hx rfl (hb hby hd) rfl hy k) g
theorem own_ldiv (X : Stand p l e R s m args below meth c T locs cells slots) (hx : p.tables.exec = Jvm.exec) {B : ByteArray} (hby : c.code = B) {pc pc' : Nat} {Ls : Array Slot} {S : List Value} {x y z : Int64} (hd : decode B pc = .ok (.ldiv, 1)) (hp : pc + 1 = pc') (hy : y ≠ 0) (hz : x / y = z) (g : own_Go p.tables e below (T.setTop (mkF m pc' Ls (.long z :: S))) RR) : own_Go p.tables e below (T.setTop (mkF m pc Ls (.long y :: .long x :: S))) RR := by
  subst hp
  subst hz
  exact own_st (fun t k => XS.ldiv X.here hx rfl (hb hby hd) rfl hy k) g
theorem own_irem (X : Stand p l e R s m args below meth c T locs cells slots) (hx : p.tables.exec = Jvm.exec) {B : ByteArray} (hby : c.code = B) {pc pc' : Nat} {Ls : Array Slot} {S : List Value} {x y z : Int32} (hd : decode B pc = .ok (.irem, 1)) (hp : pc + 1 = pc') (hy : y ≠ 0) (hz : x - (x / y) * y = z) (g : own_Go p.tables e below (T.setTop (mkF m pc' Ls (.int z :: S))) RR) : own_Go p.tables e below (T.setTop (mkF m pc Ls (.int y :: .int x :: S))) RR := by
  subst hp
  subst hz
  exact own_st (fun t k => XS.irem X.here hx rfl (hb hby hd) rfl hy k) g
theorem own_lrem (X : Stand p l e R s m args below meth c T locs cells slots) (hx : p.tables.exec = Jvm.exec) {B : ByteArray} (hby : c.code = B) {pc pc' : Nat} {Ls : Array Slot} {S : List Value} {x y z : Int64} (hd : decode B pc = .ok (.lrem, 1)) (hp : pc + 1 = pc') (hy : y ≠ 0) (hz : x - (x / y) * y = z) (g : own_Go p.tables e below (T.setTop (mkF m pc' Ls (.long z :: S))) RR) : own_Go p.tables e below (T.setTop (mkF m pc Ls (.long y :: .long x :: S))) RR := by
  subst hp
  subst hz
  exact own_st (fun t k => XS.lrem X.here hx rfl (hb hby hd) rfl hy k) g
theorem own_lcmp (X : Stand p l e R s m args below meth c T locs cells slots) (hx : p.tables.exec = Jvm.exec) {B : ByteArray} (hby : c.code = B) {pc pc' : Nat} {Ls : Array Slot} {S : List Value} {x y : Int64} (hd : decode B pc = .ok (.lcmp, 1)) (hp : pc + 1 = pc')  (g : own_Go p.tables e below (T.setTop (mkF m pc' Ls (.int (lcmpW x y) :: S))) RR) : own_Go p.tables e below (T.setTop (mkF m pc Ls (.long y :: .long x :: S))) RR := by
  subst hp
  exact own_st (fun t k => XS.lcmp X.here hx rfl (hb hby hd) rfl k) g
theorem own_iinc (X : Stand p l e R s m args below meth c T locs cells slots) (hx : p.tables.exec = Jvm.exec) {B : ByteArray} (hby : c.code = B) {pc pc' : Nat} {Ls : Array Slot} {S : List Value} {k : Nat} {cst : Int} {x z : Int32} {Ls' : Array Slot} (hd : decode B pc = .ok (.iinc k cst, 3)) (hp : pc + 3 = pc') (hl : Ls[k]? = some (.val (.int x))) (hz : x + Int32.ofInt cst = z) (hl' : storeLocals Ls k (.int z) = some Ls') (g : own_Go p.tables e below (T.setTop (mkF m pc' Ls' S)) RR) : own_Go p.tables e below (T.setTop (mkF m pc Ls S)) RR := by
  subst hp
  subst hz
  exact own_st (fun t k => XS.iinc X.here hx rfl (hb hby hd) hl hl' k) g
theorem own_dup (X : Stand p l e R s m args below meth c T locs cells slots) (hx : p.tables.exec = Jvm.exec) {B : ByteArray} (hby : c.code = B) {pc pc' : Nat} {Ls : Array Slot} {S : List Value} {x : Value} (hd : decode B pc = .ok (.dup, 1)) (hp : pc + 1 = pc') (hc : x.category = 1) (g : own_Go p.tables e below (T.setTop (mkF m pc' Ls (x :: x :: S))) RR) : own_Go p.tables e below (T.setTop (mkF m pc Ls (x :: S))) RR := by
  subst hp
  exact own_st (fun t k => XS.dup X.here hx rfl (hb hby hd) rfl hc k) g
theorem own_dup_x1 (X : Stand p l e R s m args below meth c T locs cells slots) (hx : p.tables.exec = Jvm.exec) {B : ByteArray} (hby : c.code = B) {pc pc' : Nat} {Ls : Array Slot} {S : List Value} {x y : Value} (hd : decode B pc = .ok (.dup_x1, 1)) (hp : pc + 1 = pc') (hc : x.category = 1) (hc' : y.category = 1) (g : own_Go p.tables e below (T.setTop (mkF m pc' Ls (x :: y :: x :: S))) RR) : own_Go p.tables e below (T.setTop (mkF m pc Ls (x :: y :: S))) RR := by
  subst hp
  exact own_st (fun t k => XS.dupX1 X.here hx rfl (hb hby hd) rfl hc hc' k) g
theorem own_dup2 (X : Stand p l e R s m args below meth c T locs cells slots) (hx : p.tables.exec = Jvm.exec) {B : ByteArray} (hby : c.code = B) {pc pc' : Nat} {Ls : Array Slot} {S : List Value} {x y : Value} (hd : decode B pc = .ok (.dup2, 1)) (hp : pc + 1 = pc') (hc : x.category = 1) (hc' : y.category = 1) (g : own_Go p.tables e below (T.setTop (mkF m pc' Ls (x :: y :: x :: y :: S))) RR) : own_Go p.tables e below (T.setTop (mkF m pc Ls (x :: y :: S))) RR := by
  subst hp
  exact own_st (fun t k => Jvm.Free.XT.dup2 X.here hx rfl (hb hby hd) rfl hc hc' k) g
theorem own_dup2L (X : Stand p l e R s m args below meth c T locs cells slots) (hx : p.tables.exec = Jvm.exec) {B : ByteArray} (hby : c.code = B) {pc pc' : Nat} {Ls : Array Slot} {S : List Value} {x : Int64} (hd : decode B pc = .ok (.dup2, 1)) (hp : pc + 1 = pc')  (g : own_Go p.tables e below (T.setTop (mkF m pc' Ls (.long x :: .long x :: S))) RR) : own_Go p.tables e below (T.setTop (mkF m pc Ls (.long x :: S))) RR := by
  subst hp
  exact own_st (fun t k => Jvm.Free.XT.dup2L X.here hx rfl (hb hby hd) rfl k) g
theorem own_pop (X : Stand p l e R s m args below meth c T locs cells slots) (hx : p.tables.exec = Jvm.exec) {B : ByteArray} (hby : c.code = B) {pc pc' : Nat} {Ls : Array Slot} {S : List Value} {x : Value} (hd : decode B pc = .ok (.pop, 1)) (hp : pc + 1 = pc') (hc : x.category = 1) (g : own_Go p.tables e below (T.setTop (mkF m pc' Ls S)) RR) : own_Go p.tables e below (T.setTop (mkF m pc Ls (x :: S))) RR := by
  subst hp
  exact own_st (fun t k => XS.pop X.here hx rfl (hb hby hd) rfl hc k) g
theorem own_goto (X : Stand p l e R s m args below meth c T locs cells slots) (hx : p.tables.exec = Jvm.exec) {B : ByteArray} (hby : c.code = B) {pc pc' : Nat} {Ls : Array Slot} {S : List Value}  {o : Int} (hd : decode B pc = .ok (.goto o, 3)) (hp : 0 ≤ (pc : Int) + o ∧ ((pc : Int) + o).toNat = pc')  (g : own_Go p.tables e below (T.setTop (mkF m pc' Ls S)) RR) : own_Go p.tables e below (T.setTop (mkF m pc Ls S)) RR :=
  own_st (fun t k => XS.goto X.here hx rfl rfl (hb hby hd) hp.1 hp.2 k) g
theorem own_ifYes (X : Stand p l e R s m args below meth c T locs cells slots) (hx : p.tables.exec = Jvm.exec) {B : ByteArray} (hby : c.code = B) {pc pc' : Nat} {Ls : Array Slot} {S : List Value} {cd : ClassFile.Cond} {x : Int32} {o : Int} (hd : decode B pc = .ok (.ifCond cd o, 3)) (hp : 0 ≤ (pc : Int) + o ∧ ((pc : Int) + o).toNat = pc') (hc : if_icmp.holds cd x 0 = true) (g : own_Go p.tables e below (T.setTop (mkF m pc' Ls S)) RR) : own_Go p.tables e below (T.setTop (mkF m pc Ls (.int x :: S))) RR :=
  own_st (fun t k => XS.ifYes X.here hx rfl rfl (hb hby hd) rfl ((if0 _ _).trans hc) hp.1 hp.2 k) g
theorem own_icmpYes (X : Stand p l e R s m args below meth c T locs cells slots) (hx : p.tables.exec = Jvm.exec) {B : ByteArray} (hby : c.code = B) {pc pc' : Nat} {Ls : Array Slot} {S : List Value} {cd : ClassFile.Cond} {x y : Int32} {o : Int} (hd : decode B pc = .ok (.if_icmp cd o, 3)) (hp : 0 ≤ (pc : Int) + o ∧ ((pc : Int) + o).toNat = pc') (hc : if_icmp.holds cd x y = true) (g : own_Go p.tables e below (T.setTop (mkF m pc' Ls S)) RR) : own_Go p.tables e below (T.setTop (mkF m pc Ls (.int y :: .int x :: S))) RR :=
  own_st (fun t k => XS.icmpYes X.here hx rfl rfl (hb hby hd) rfl hc hp.1 hp.2 k) g
theorem own_ifnullYes (X : Stand p l e R s m args below meth c T locs cells slots) (hx : p.tables.exec = Jvm.exec) {B : ByteArray} (hby : c.code = B) {pc pc' : Nat} {Ls : Array Slot} {S : List Value}  {o : Int} (hd : decode B pc = .ok (.ifnull o, 3)) (hp : 0 ≤ (pc : Int) + o ∧ ((pc : Int) + o).toNat = pc')  (g : own_Go p.tables e below (T.setTop (mkF m pc' Ls S)) RR) : own_Go p.tables e below (T.setTop (mkF m pc Ls (.null :: S))) RR :=
  own_st (fun t k => XS.ifnullYes X.here hx rfl rfl (hb hby hd) rfl hp.1 hp.2 k) g
theorem own_ifnonnullYes (X : Stand p l e R s m args below meth c T locs cells slots) (hx : p.tables.exec = Jvm.exec) {B : ByteArray} (hby : c.code = B) {pc pc' : Nat} {Ls : Array Slot} {S : List Value} {b : Addr} {o : Int} (hd : decode B pc = .ok (.ifnonnull o, 3)) (hp : 0 ≤ (pc : Int) + o ∧ ((pc : Int) + o).toNat = pc')  (g : own_Go p.tables e below (T.setTop (mkF m pc' Ls S)) RR) : own_Go p.tables e below (T.setTop (mkF m pc Ls (.ref b :: S))) RR :=
  own_st (fun t k => XS.ifnonnullYes X.here hx rfl rfl (hb hby hd) rfl hp.1 hp.2 k) g
theorem own_ifNo (X : Stand p l e R s m args below meth c T locs cells slots) (hx : p.tables.exec = Jvm.exec) {B : ByteArray} (hby : c.code = B) {pc pc' : Nat} {Ls : Array Slot} {S : List Value} {cd : ClassFile.Cond} {o : Int} {x : Int32} (hd : decode B pc = .ok (.ifCond cd o, 3)) (hp : pc + 3 = pc') (hc : if_icmp.holds cd x 0 = false) (g : own_Go p.tables e below (T.setTop (mkF m pc' Ls S)) RR) : own_Go p.tables e below (T.setTop (mkF m pc Ls (.int x :: S))) RR := by
  subst hp
  exact own_st (fun t k => XS.ifNo X.here hx rfl (hb hby hd) rfl ((if0 _ _).trans hc) k) g
theorem own_icmpNo (X : Stand p l e R s m args below meth c T locs cells slots) (hx : p.tables.exec = Jvm.exec) {B : ByteArray} (hby : c.code = B) {pc pc' : Nat} {Ls : Array Slot} {S : List Value} {cd : ClassFile.Cond} {o : Int} {x y : Int32} (hd : decode B pc = .ok (.if_icmp cd o, 3)) (hp : pc + 3 = pc') (hc : if_icmp.holds cd x y = false) (g : own_Go p.tables e below (T.setTop (mkF m pc' Ls S)) RR) : own_Go p.tables e below (T.setTop (mkF m pc Ls (.int y :: .int x :: S))) RR := by
  subst hp
  exact own_st (fun t k => XS.icmpNo X.here hx rfl (hb hby hd) rfl hc k) g
theorem own_ifnullNo (X : Stand p l e R s m args below meth c T locs cells slots) (hx : p.tables.exec = Jvm.exec) {B : ByteArray} (hby : c.code = B) {pc pc' : Nat} {Ls : Array Slot} {S : List Value} {o : Int} {b : Addr} (hd : decode B pc = .ok (.ifnull o, 3)) (hp : pc + 3 = pc')  (g : own_Go p.tables e below (T.setTop (mkF m pc' Ls S)) RR) : own_Go p.tables e below (T.setTop (mkF m pc Ls (.ref b :: S))) RR := by
  subst hp
  exact own_st (fun t k => XS.ifnullNo X.here hx rfl (hb hby hd) rfl k) g
theorem own_ifnonnullNo (X : Stand p l e R s m args below meth c T locs cells slots) (hx : p.tables.exec = Jvm.exec) {B : ByteArray} (hby : c.code = B) {pc pc' : Nat} {Ls : Array Slot} {S : List Value} {o : Int} (hd : decode B pc = .ok (.ifnonnull o, 3)) (hp : pc + 3 = pc')  (g : own_Go p.tables e below (T.setTop (mkF m pc' Ls S)) RR) : own_Go p.tables e below (T.setTop (mkF m pc Ls (.null :: S))) RR := by
  subst hp
  exact own_st (fun t k => XS.ifnonnullNo X.here hx rfl (hb hby hd) rfl k) g
theorem own_acmp (X : Stand p l e R s m args below meth c T locs cells slots) (hx : p.tables.exec = Jvm.exec) {B : ByteArray} (hby : c.code = B) {pc pc' : Nat} {Ls : Array Slot} {S : List Value} {cd : ACond} {o : Int} {x y : Value} {same : Bool} (hd : decode B pc = .ok (.if_acmp cd o, 3)) (h1 : x.isRef = true) (h2 : y.isRef = true) (hq : decide (x = y) = same) (hp : 0 ≤ (pc : Int) + o ∧ pc' = if acV cd same = true then ((pc : Int) + o).toNat else pc + 3) (g : own_Go p.tables e below (T.setTop (mkF m pc' Ls S)) RR) : own_Go p.tables e below (T.setTop (mkF m pc Ls (y :: x :: S))) RR :=
  own_st (fun t k => Jvm.RoadKit.acmp X hx rfl h1 h2 rfl (hb hby hd) rfl hq hp.1 hp.2 k) g
theorem own_tsw (X : Stand p l e R s m args below meth c T locs cells slots) (hx : p.tables.exec = Jvm.exec) {B : ByteArray} (hby : c.code = B) {pc pc' : Nat} {Ls : Array Slot} {S : List Value} {dflt low high : Int} {offs : Array Int} {len : Nat} {o : Int} {i : Int32} (hd : decode B pc = .ok (.tableswitch dflt low high offs, len)) (hin : ¬ (i.toInt < low ∨ i.toInt > high)) (hoff : offs[(i.toInt - low).toNat]? = some o) (hp : 0 ≤ (pc : Int) + o ∧ ((pc : Int) + o).toNat = pc') (g : own_Go p.tables e below (T.setTop (mkF m pc' Ls S)) RR) : own_Go p.tables e below (T.setTop (mkF m pc Ls (.int i :: S))) RR :=
  own_st (fun t k => XS.tswIn X.here hx rfl rfl (hb hby hd) rfl hin hoff hp.1 hp.2 k) g
theorem own_ldc (X : Stand p l e R s m args below meth c T locs cells slots) (hx : p.tables.exec = Jvm.exec) {B : ByteArray} (hby : c.code = B) {pc pc' : Nat} {Ls : Array Slot} {S : List Value} {own : String} {index : Nat} {v : Int32} (hd : decode B pc = .ok (.ldc index, 2)) (hp : pc + 2 = pc') (hZ : Z.Warmed39 s.vm) (hown : s.vm.findClass own = some m.cls) (w : (Cond.constant own index v).before a0 Z = true) (g : own_Go p.tables e below (T.setTop (mkF m pc' Ls (.int v :: S))) RR) : own_Go p.tables e below (T.setTop (mkF m pc Ls S)) RR := by
  subst hp
  exact own_st (X.ldcInt hx hown (mvT hZ w) (g := mkF m pc Ls S) rfl (hb hby hd)) g
theorem own_ldc2 (X : Stand p l e R s m args below meth c T locs cells slots) (hx : p.tables.exec = Jvm.exec) {B : ByteArray} (hby : c.code = B) {pc pc' : Nat} {Ls : Array Slot} {S : List Value} {own : String} {index : Nat} {v : Int64} (hd : decode B pc = .ok (.ldc2_w index, 3)) (hp : pc + 3 = pc') (hZ : Z.Warmed39 s.vm) (hown : s.vm.findClass own = some m.cls) (w : (Cond.constantLong own index v).before a0 Z = true) (g : own_Go p.tables e below (T.setTop (mkF m pc' Ls (.long v :: S))) RR) : own_Go p.tables e below (T.setTop (mkF m pc Ls S)) RR := by
  subst hp
  exact own_st (X.ldc2Long hx hown (mvT hZ w) (g := mkF m pc Ls S) rfl (hb hby hd)) g
theorem own_getS (X : Stand p l e R s m args below meth c T locs cells slots) (hx : p.tables.exec = Jvm.exec) {B : ByteArray} (hby : c.code = B) {pc pc' : Nat} {Ls : Array Slot} {S : List Value} {own R0 O n d host : String} {index : Nat} {v : Value} (hd : decode B pc = .ok (.getstatic index, 3)) (hp : pc + 3 = pc') (hZ : Z.Warmed39 s.vm) (hown : s.vm.findClass own = some m.cls) (w : (Cond.fieldLink own index R0 n d).before a0 Z = true ∨ (Cond.fieldLinkNest own index R0 n d host).before a0 Z = true) (via : Via Z R0 O n d) (eT : T.heap = h) (F : Sta Z h O n d v) (g : ∀ T' : State, Stand p l e R s m args below meth c T' locs cells slots → T'.heap = h → own_Go p.tables e below (T'.setTop (mkF m pc' Ls (v :: S))) RR) : own_Go p.tables e below (T.setTop (mkF m pc Ls S)) RR := by
  subst hp
  obtain ⟨T', X', e', st⟩ := getS2 X hx hZ hown w via eT F (g := mkF m pc Ls S) rfl (hb hby hd)
  exact own_st st (g T' X' e')
theorem own_getF (X : Stand p l e R s m args below meth c T locs cells slots) (hx : p.tables.exec = Jvm.exec) {B : ByteArray} (hby : c.code = B) {pc pc' : Nat} {Ls : Array Slot} {S : List Value} {own R0 O n d host : String} {index : Nat} {v : Value} {a : Addr} (hd : decode B pc = .ok (.getfield index, 3)) (hp : pc + 3 = pc') (hZ : Z.Warmed39 s.vm) (hown : s.vm.findClass own = some m.cls) (w : (Cond.fieldLink own index R0 n d).before a0 Z = true ∨ (Cond.fieldLinkNest own index R0 n d host).before a0 Z = true) (via : Via Z R0 O n d) (eT : T.heap = h) (F : Fld Z h a O n d v) (g : ∀ T' : State, Stand p l e R s m args below meth c T' locs cells slots → T'.heap = h → own_Go p.tables e below (T'.setTop (mkF m pc' Ls (v :: S))) RR) : own_Go p.tables e below (T.setTop (mkF m pc Ls (.ref a :: S))) RR := by
  subst hp
  obtain ⟨T', X', e', st⟩ := getF X hx hZ hown w via eT F (g := mkF m pc Ls (.ref a :: S)) rfl rfl (hb hby hd)
  exact own_st st (g T' X' e')
theorem own_new (X : Stand p l e R s m args below meth c T locs cells slots) (hx : p.tables.exec = Jvm.exec) {B : ByteArray} (hby : c.code = B) {pc pc' : Nat} {Ls : Array Slot} {S : List Value} {own C : String} {index n : Nat} (hd : decode B pc = .ok (.new index, 3)) (hp : pc + 3 = pc') (hZ : Z.Warmed39 s.vm) (hown : s.vm.findClass own = some m.cls) (w : (Cond.classLink own index C).before a0 Z = true) (wi : (Cond.instantiable C n).before a0 Z = true) (wz : (Cond.initialized C).before a0 Z = true) (eT : T.heap = h) (hc : cells + 1 ≤ R.cells) (hl : slots + n ≤ R.slots) (g : ∀ (T' : State) (h' : Heap) (a : Addr), Stand p l e R s m args below meth c T' locs (cells + 1) (slots + n) → T'.heap = h' → a = h.size → Ext h h' → Exa Z h' a C → (∀ {O nm d : String} {ty : FieldType}, Laid Z a0 C O nm d → parseFieldDescriptor d = some ty → Fld Z h' a O nm d (defaultValue ty)) → own_Go p.tables e below (T'.setTop (mkF m pc' Ls (.ref a :: S))) RR) : own_Go p.tables e below (T.setTop (mkF m pc Ls S)) RR := by
  subst hp
  obtain ⟨T', h', X', e', E', A', D', -, st⟩ := newO X hx hZ hown w wi wz eT (g := mkF m pc Ls S) rfl (hb hby hd) hc hl
  exact own_st st (g T' h' _ X' e' rfl E' A' D')
theorem own_put (X : Stand p l e R s m args below meth c T locs cells slots) (hx : p.tables.exec = Jvm.exec) {B : ByteArray} (hby : c.code = B) {pc pc' : Nat} {Ls : Array Slot} {S : List Value} {own R0 O n d host C : String} {index kk : Nat} {ty : FieldType} {a : Addr} {v old : Value} (hd : decode B pc = .ok (.putfield index, 3)) (hp : pc + 3 = pc') (hZ : Z.Warmed39 s.vm) (hown : s.vm.findClass own = some m.cls) (w : (Cond.fieldLink own index R0 n d).before a0 Z = true ∨ (Cond.fieldLinkNest own index R0 n d host).before a0 Z = true) (via : Via Z R0 O n d) (eT : T.heap = h) (F : Fld Z h a O n d old) (E : Exa Z h a C) (L : (Cond.lays C O n d).before a0 Z = true ∨ ((Cond.laysFinal C O n d).before a0 Z = true ∧ own = O ∧ meth.name = "<init>")) (wi : (Cond.instantiable C kk).before a0 Z = true) (hty : parseFieldDescriptor d = some ty) (hn : narrow ty v = v) (hf : fits ty v = true) (g : ∀ (T' : State) (h' : Heap), Stand p l e R s m args below meth c T' (locs ++ [⟨a, Jvm.RoadKit.slotOf Z O n d⟩]) cells slots → T'.heap = h' → Wr h h' a (Jvm.RoadKit.slotOf Z O n d) v → own_Go p.tables e below (T'.setTop (mkF m pc' Ls S)) RR) : own_Go p.tables e below (T.setTop (mkF m pc Ls (v :: .ref a :: S))) RR := by
  subst hp
  obtain ⟨T', h', X', e', W', st⟩ := putF X hx hZ hown w via eT F E L wi hty hn hf (g := mkF m pc Ls (v :: .ref a :: S)) rfl rfl (hb hby hd)
  exact own_st st (g T' h' X' e' W')
theorem own_putN (X : Stand p l e R s m args below meth c T locs cells slots) (hx : p.tables.exec = Jvm.exec) {B : ByteArray} (hby : c.code = B) {pc pc' : Nat} {Ls : Array Slot} {S : List Value} {own R0 O n d C : String} {index kk : Nat} {ty : FieldType} {a : Addr} {v v' old : Value} (hd : decode B pc = .ok (.putfield index, 3)) (hp : pc + 3 = pc') (hZ : Z.Warmed39 s.vm) (hown : s.vm.findClass own = some m.cls) (w : (Cond.fieldLink own index R0 n d).before a0 Z = true) (via : Via Z R0 O n d) (eT : T.heap = h) (F : Fld Z h a O n d old) (E : Exa Z h a C) (L : (Cond.lays C O n d).before a0 Z = true ∨ ((Cond.laysFinal C O n d).before a0 Z = true ∧ own = O ∧ meth.name = "<init>")) (wi : (Cond.instantiable C kk).before a0 Z = true) (hty : parseFieldDescriptor d = some ty) (hn : narrow ty v = v') (hf : fits ty v' = true) (g : ∀ (T' : State) (h' : Heap), Stand p l e R s m args below meth c T' (locs ++ [⟨a, Jvm.RoadKit.slotOf Z O n d⟩]) cells slots → T'.heap = h' → Wr h h' a (Jvm.RoadKit.slotOf Z O n d) v' → own_Go p.tables e below (T'.setTop (mkF m pc' Ls S)) RR) : own_Go p.tables e below (T.setTop (mkF m pc Ls (v :: .ref a :: S))) RR := by
  subst hp
  obtain ⟨T', h', X', e', W', st⟩ := putFN X hx hZ hown w via eT F E L wi hty hn hf (g := mkF m pc Ls (v :: .ref a :: S)) rfl rfl (hb hby hd)
  exact own_st st (g T' h' X' e' W')
theorem own_initO (X : Stand p l e R s m args below meth c T locs cells slots) (hx : p.tables.exec = Jvm.exec) {B : ByteArray} (hby : c.code = B) {pc pc' : Nat} {Ls : Array Slot} {S : List Value} {own : String} {index : Nat} {a : Addr} (hd : decode B pc = .ok (.invokespecial index, 3)) (hp : pc + 3 = pc') (hZ : Z.Warmed39 s.vm) (hown : s.vm.findClass own = some m.cls) (w1 : (Cond.methodLink own index Lib.objectInit).before a0 Z = true) (w2 : (Cond.instanceMethod Lib.objectInit).before a0 Z = true) (w3 : (Cond.code Lib.objectInit ⟨#[0xb1]⟩ 1 none).before a0 Z = true) (eT : T.heap = h) (hsz : Ls.size = c.maxLocals) (hf : 1 ≤ R.frames) {W : Nat} (hW : (S.map fun v => v.category).sum ≤ W) (hl : W + 12 ≤ R.locals) (g : ∀ (T' : State), Stand p l e R s m args below meth c T' locs cells slots → T'.heap = h → own_Go p.tables e below (T'.setTop (mkF m pc' Ls S)) RR) : own_Go p.tables e below (T.setTop (mkF m pc Ls (.ref a :: S))) RR := by
  subst hp
  obtain ⟨T', X', e', st⟩ := initO X hx hZ hown w1 w2 w3 eT (g := mkF m pc Ls (.ref a :: S)) rfl hsz rfl (hb hby hd) hf (W := W) (by show 2 * 0 + _ ≤ _; omega) hl
  exact own_st st (g T' X' e')
theorem own_castY (X : Stand p l e R s m args below meth c T locs cells slots) (hx : p.tables.exec = Jvm.exec) {B : ByteArray} (hby : c.code = B) {pc pc' : Nat} {Ls : Array Slot} {S : List Value} {own K : String} {index : Nat} {a : Addr} (hd : decode B pc = .ok (.checkcast index, 3)) (hp : pc + 3 = pc') (hZ : Z.Warmed39 s.vm) (hown : s.vm.findClass own = some m.cls) (w : (Cond.classLink own index K).before a0 Z = true) (eT : T.heap = h) (F : Ins Z h a K true) (g : ∀ (T' : State), Stand p l e R s m args below meth c T' locs cells slots → T'.heap = h → own_Go p.tables e below (T'.setTop (mkF m pc' Ls (.ref a :: S))) RR) : own_Go p.tables e below (T.setTop (mkF m pc Ls (.ref a :: S))) RR := by
  subst hp
  obtain ⟨T', X', e', st⟩ := castY X hx hZ hown w eT F (g := mkF m pc Ls (.ref a :: S)) rfl rfl (hb hby hd)
  exact own_st st (g T' X' e')
theorem own_instY (X : Stand p l e R s m args below meth c T locs cells slots) (hx : p.tables.exec = Jvm.exec) {B : ByteArray} (hby : c.code = B) {pc pc' : Nat} {Ls : Array Slot} {S : List Value} {own K : String} {index : Nat} {a : Addr} (hd : decode B pc = .ok (.instanceof index, 3)) (hp : pc + 3 = pc') (hZ : Z.Warmed39 s.vm) (hown : s.vm.findClass own = some m.cls) (w : (Cond.classLink own index K).before a0 Z = true) (eT : T.heap = h) (F : Ins Z h a K true) (g : ∀ (T' : State), Stand p l e R s m args below meth c T' locs cells slots → T'.heap = h → own_Go p.tables e below (T'.setTop (mkF m pc' Ls (.int 1 :: S))) RR) : own_Go p.tables e below (T.setTop (mkF m pc Ls (.ref a :: S))) RR := by
  subst hp
  obtain ⟨T', X', e', st⟩ := instY X hx hZ hown w eT F (g := mkF m pc Ls (.ref a :: S)) rfl rfl (hb hby hd)
  exact own_st st (g T' X' e')
theorem own_castN (X : Stand p l e R s m args below meth c T locs cells slots) (hx : p.tables.exec = Jvm.exec) {B : ByteArray} (hby : c.code = B) {pc pc' : Nat} {Ls : Array Slot} {S : List Value} {index : Nat} (hd : decode B pc = .ok (.checkcast index, 3)) (hp : pc + 3 = pc') (g : own_Go p.tables e below (T.setTop (mkF m pc' Ls (.null :: S))) RR) : own_Go p.tables e below (T.setTop (mkF m pc Ls (.null :: S))) RR := by
  subst hp
  exact own_st (X.checkcastNull hx (g := mkF m pc Ls (.null :: S)) rfl rfl (hb hby hd)) g
theorem own_instN (X : Stand p l e R s m args below meth c T locs cells slots) (hx : p.tables.exec = Jvm.exec) {B : ByteArray} (hby : c.code = B) {pc pc' : Nat} {Ls : Array Slot} {S : List Value} {index : Nat} (hd : decode B pc = .ok (.instanceof index, 3)) (hp : pc + 3 = pc') (g : own_Go p.tables e below (T.setTop (mkF m pc' Ls (.int 0 :: S))) RR) : own_Go p.tables e below (T.setTop (mkF m pc Ls (.null :: S))) RR := by
  subst hp
  exact own_st (X.instanceofNull hx (g := mkF m pc Ls (.null :: S)) rfl rfl (hb hby hd)) g
theorem own_callSp (X : Stand p l e R s m args below meth c T locs cells slots) (hx : p.tables.exec = Jvm.exec) (hZ : Z.Warmed39 s.vm) {y : MethodName} {bytes : ByteArray} {maxL : Nat} {rm : Room} {as' : Array Value}
    (hM : own_Met l y bytes maxL none [] rm as' Z h Q) (hin : y.name = "<init>") {own : String} {index : Nat} (hown : s.vm.findClass own = some m.cls) (w1 : (Cond.methodLink own index y).before a0 Z = true) (w4 : (Cond.instanceMethod y).before a0 Z = true) (w5 : (Cond.code y bytes maxL none).before a0 Z = true) (w6 : (Cond.initialized y.cls).before a0 Z = true)
    (hy : y.cls ≠ "java/lang/invoke/MethodHandle" ∧ y.cls ≠ "java/lang/invoke/VarHandle") {a : Addr} {W : Nat} (hf : rm.frames + 1 ≤ R.frames) (hl : W + (maxL + 11) + rm.locals ≤ R.locals) {pc : Nat} {Ls : Array Slot} (hsz : Ls.size = c.maxLocals) {argsL rest st : List Value} (ha : (Value.ref a :: argsL).toArray = as')
    (hlen : ∀ sig, parseMethodDescriptor y.desc = some sig → argsL.length = sig.parameters.length) (hst : st = argsL.reverse ++ .ref a :: rest) (hW : (rest.map fun v => v.category).sum ≤ W) (hd : decode c.code pc = .ok (.invokespecial index, 3)) (eT : T.heap = h) (hc : cells + rm.cells ≤ R.cells) (hs : slots + rm.slots ≤ R.slots)
    (k : ∀ (v : Option Value) (T' : State) (L : List Loc), Stand p l e R s m args below meth c T' (locs ++ L) (cells + rm.cells) (slots + rm.slots) → Q v T'.heap L → own_Go p.tables e below (T'.setTop (mkF m (pc + 3) Ls (v.toList ++ rest))) RR) :
    own_Go p.tables e below (T.setTop (mkF m pc Ls st)) RR := by
  subst ha
  obtain ⟨v, _, ⟨T', L', k', n'⟩, -, X', ⟨Lc, hQ, l', y', z'⟩, stp⟩ := X.specialBack hx (y := y) hin hown (mvT hZ w1) (mvT hZ w4) (mvT hZ w5) hy (backOf (W := W) hM hZ w5 w6 hf hl) (g := mkF m pc Ls st) rfl hsz (Steps.refl _) (a := a) (argsL := argsL) (rest := rest) hlen hst (by show 2 * 0 + _ ≤ _; omega) hd (fun _ _ => ⟨rfl, eT, hc, hs⟩)
  dsimp only [Pt.U, Pt.locs, Pt.cells, Pt.slots] at X' l' y' z' stp hQ
  subst l' y' z'
  exact own_st (fun t k => stp.trans k) (k v T' Lc X' hQ)
/-! arrays: own_Ar says all that an array holds, by a list -/
def own_Ar (Z : State) (h : Heap) (a : Addr) (ty : FieldType) (vs : List Value) : Prop := ∃ c : Cell, Arr Z h a c ty ∧ c.slots.toList = vs
theorem own_Ar.lt {a : Addr} {ty : FieldType} {vs : List Value} (F : own_Ar Z h a ty vs) : a < h.size := by obtain ⟨c, A, -⟩ := F; exact A.lt
theorem own_Ar.ext {h' : Heap} {a : Addr} {ty : FieldType} {vs : List Value} (F : own_Ar Z h a ty vs) (E : Ext h h') : own_Ar Z h' a ty vs := by obtain ⟨c, A, q⟩ := F; exact ⟨c, A.ext E, q⟩
theorem own_Ar.other {h' : Heap} {a b : Addr} {sl : Nat} {v : Value} {ty : FieldType} {vs : List Value} (F : own_Ar Z h b ty vs) (W : Wr h h' a sl v) (q : b ≠ a) : own_Ar Z h' b ty vs := by obtain ⟨c, A, r⟩ := F; exact ⟨c, A.other W q, r⟩
theorem own_Ar.keep {h' : Heap} {a : Addr} {ws : List Addr} {ty : FieldType} {vs : List Value} (F : own_Ar Z h a ty vs) (K : Keep h h' ws) (q : a ∉ ws) : own_Ar Z h' a ty vs := by obtain ⟨c, A, r⟩ := F; exact ⟨c, ⟨K.2.1 a c A.1 q, A.2⟩, r⟩
theorem own_Ar.same {h' : Heap} {a : Addr} {sl : Nat} {v : Value} {ty : FieldType} {vs : List Value} (F : own_Ar Z h a ty vs) (W : Wr h h' a sl v) : own_Ar Z h' a ty (vs.set sl v) := by
  obtain ⟨c, A, r⟩ := F
  refine ⟨_, A.same W, ?_⟩
  rw [← r]
  show (c.slots.setIfInBounds sl v).toList = _
  exact Array.toList_setIfInBounds
theorem own_Ar.at {a : Addr} {ty : FieldType} {vs : List Value} (F : own_Ar Z h a ty vs) {j : Int32} (hj : ¬ j < 0) {v : Value} (hv : vs[j.toNatClampNeg]? = some v) : ∃ c : Cell, Arr Z h a c ty ∧ c.slots.toList = vs ∧ ¬ (j < 0 ∨ c.slots.size ≤ j.toNatClampNeg) ∧ c.slots[j.toNatClampNeg]? = some v := by
  obtain ⟨c, A, r⟩ := F
  subst r
  have q : c.slots[j.toNatClampNeg]? = some v := by rw [← Array.getElem?_toList]; exact hv
  refine ⟨c, A, rfl, ?_, q⟩
  rintro (u | u)
  · exact hj u
  · rw [Array.getElem?_eq_none u] at q; cases q
theorem own_newA (X : Stand p l e R s m args below meth c T locs cells slots) (hx : p.tables.exec = Jvm.exec) {B : ByteArray} (hby : c.code = B) {pc pc' : Nat} {Ls : Array Slot} {S : List Value} {aty : ArrayType} {n : Int32} {vs : List Value} (hd : decode B pc = .ok (.newarray aty, 2)) (hp : pc + 2 = pc') (hZ : Z.Warmed39 s.vm) (w : (Cond.arrayClass (newarray.typeOf aty)).before a0 Z = true) (eT : T.heap = h) (hn : ¬ n < 0) {cap : Nat} (hcap : n.toNatClampNeg ≤ cap) (hbig : cap * 8 ≤ 536870912) (hc : cells + 1 ≤ R.cells) (hl : slots + cap ≤ R.slots) (hvs : List.replicate n.toNatClampNeg (defaultValue (newarray.typeOf aty)) = vs) (g : ∀ (T' : State) (h' : Heap) (a : Addr), Stand p l e R s m args below meth c T' locs (cells + 1) (slots + cap) → T'.heap = h' → a = h.size → Ext h h' → own_Ar Z h' a (newarray.typeOf aty) vs → own_Go p.tables e below (T'.setTop (mkF m pc' Ls (.ref a :: S))) RR) : own_Go p.tables e below (T.setTop (mkF m pc Ls (.int n :: S))) RR := by
  subst hp
  obtain ⟨T', h', cA, X', e', E', A', st⟩ := newP X hx hZ w eT (g := mkF m pc Ls (.int n :: S)) rfl (hb hby hd) rfl hn hcap hbig hc hl
  exact own_st st (g T' h' _ X' e' rfl E' ⟨_, A', by rw [← hvs]; exact Array.toList_replicate⟩)
theorem own_iaload (X : Stand p l e R s m args below meth c T locs cells slots) (hx : p.tables.exec = Jvm.exec) {B : ByteArray} (hby : c.code = B) {pc pc' : Nat} {Ls : Array Slot} {S : List Value} {a : Addr} {j : Int32} {v : Value} {vs : List Value} (hd : decode B pc = .ok (.iaload, 1)) (hp : pc + 1 = pc') (hZ : Z.Warmed39 s.vm) (eT : T.heap = h) (A : own_Ar Z h a .int vs) (hj : ¬ j < 0) (hv : vs[j.toNatClampNeg]? = some v) (g : own_Go p.tables e below (T.setTop (mkF m pc' Ls (v :: S))) RR) : own_Go p.tables e below (T.setTop (mkF m pc Ls (.int j :: .ref a :: S))) RR := by
  subst hp
  obtain ⟨cl, Ar, -, hin, hat⟩ := A.at hj hv
  exact own_st (fun t k => X.iaload hx (j := j) (v := v) (by rw [eT]; exact Ar.1) (State.isArrayOf_alike hZ.alike Ar.2.1) Ar.2.2 hin hat (g := mkF m pc Ls (.int j :: .ref a :: S)) rfl rfl (hb hby hd) t k) g
theorem own_laload (X : Stand p l e R s m args below meth c T locs cells slots) (hx : p.tables.exec = Jvm.exec) {B : ByteArray} (hby : c.code = B) {pc pc' : Nat} {Ls : Array Slot} {S : List Value} {a : Addr} {j : Int32} {v : Value} {vs : List Value} (hd : decode B pc = .ok (.laload, 1)) (hp : pc + 1 = pc') (hZ : Z.Warmed39 s.vm) (eT : T.heap = h) (A : own_Ar Z h a .long vs) (hj : ¬ j < 0) (hv : vs[j.toNatClampNeg]? = some v) (g : own_Go p.tables e below (T.setTop (mkF m pc' Ls (v :: S))) RR) : own_Go p.tables e below (T.setTop (mkF m pc Ls (.int j :: .ref a :: S))) RR := by
  subst hp
  obtain ⟨cl, Ar, -, hin, hat⟩ := A.at hj hv
  exact own_st (fun t k => X.laload hx (j := j) (v := v) (by rw [eT]; exact Ar.1) (State.isArrayOf_alike hZ.alike Ar.2.1) Ar.2.2 hin hat (g := mkF m pc Ls (.int j :: .ref a :: S)) rfl rfl (hb hby hd) t k) g
theorem own_caload (X : Stand p l e R s m args below meth c T locs cells slots) (hx : p.tables.exec = Jvm.exec) {B : ByteArray} (hby : c.code = B) {pc pc' : Nat} {Ls : Array Slot} {S : List Value} {a : Addr} {j : Int32} {v : Value} {vs : List Value} (hd : decode B pc = .ok (.caload, 1)) (hp : pc + 1 = pc') (hZ : Z.Warmed39 s.vm) (eT : T.heap = h) (A : own_Ar Z h a .char vs) (hj : ¬ j < 0) (hv : vs[j.toNatClampNeg]? = some v) (g : own_Go p.tables e below (T.setTop (mkF m pc' Ls (v :: S))) RR) : own_Go p.tables e below (T.setTop (mkF m pc Ls (.int j :: .ref a :: S))) RR := by
  subst hp
  obtain ⟨cl, Ar, -, hin, hat⟩ := A.at hj hv
  exact own_st (fun t k => X.caload hx (j := j) (v := v) (by rw [eT]; exact Ar.1) (State.isArrayOf_alike hZ.alike Ar.2.1) Ar.2.2 hin hat (g := mkF m pc Ls (.int j :: .ref a :: S)) rfl rfl (hb hby hd) t k) g
theorem own_saload (X : Stand p l e R s m args below meth c T locs cells slots) (hx : p.tables.exec = Jvm.exec) {B : ByteArray} (hby : c.code = B) {pc pc' : Nat} {Ls : Array Slot} {S : List Value} {a : Addr} {j : Int32} {v : Value} {vs : List Value} (hd : decode B pc = .ok (.saload, 1)) (hp : pc + 1 = pc') (hZ : Z.Warmed39 s.vm) (eT : T.heap = h) (A : own_Ar Z h a .short vs) (hj : ¬ j < 0) (hv : vs[j.toNatClampNeg]? = some v) (g : own_Go p.tables e below (T.setTop (mkF m pc' Ls (v :: S))) RR) : own_Go p.tables e below (T.setTop (mkF m pc Ls (.int j :: .ref a :: S))) RR := by
  subst hp
  obtain ⟨cl, Ar, -, hin, hat⟩ := A.at hj hv
  exact own_st (fun t k => X.saload hx (j := j) (v := v) (by rw [eT]; exact Ar.1) (State.isArrayOf_alike hZ.alike Ar.2.1) Ar.2.2 hin hat (g := mkF m pc Ls (.int j :: .ref a :: S)) rfl rfl (hb hby hd) t k) g
theorem own_baload (X : Stand p l e R s m args below meth c T locs cells slots) (hx : p.tables.exec = Jvm.exec) {B : ByteArray} (hby : c.code = B) {pc pc' : Nat} {Ls : Array Slot} {S : List Value} {a : Addr} {j : Int32} {v : Value} {vs : List Value} (hd : decode B pc = .ok (.baload, 1)) (hp : pc + 1 = pc') (hZ : Z.Warmed39 s.vm) (eT : T.heap = h) (A : own_Ar Z h a .byte vs) (hj : ¬ j < 0) (hv : vs[j.toNatClampNeg]? = some v) (g : own_Go p.tables e below (T.setTop (mkF m pc' Ls (v :: S))) RR) : own_Go p.tables e below (T.setTop (mkF m pc Ls (.int j :: .ref a :: S))) RR := by
  subst hp
  obtain ⟨cl, Ar, -, hin, hat⟩ := A.at hj hv
  exact own_st (fun t k => X.baloadBytes hx (j := j) (v := v) (by rw [eT]; exact Ar.1) (State.isArrayOf_alike hZ.alike Ar.2.1) Ar.2.2 hin hat (g := mkF m pc Ls (.int j :: .ref a :: S)) rfl rfl (hb hby hd) t k) g
theorem own_aaload (X : Stand p l e R s m args below meth c T locs cells slots) (hx : p.tables.exec = Jvm.exec) {B : ByteArray} (hby : c.code = B) {pc pc' : Nat} {Ls : Array Slot} {S : List Value} {a : Addr} {j : Int32} {v : Value} {vs : List Value} {ty : FieldType} (hty : ty.isReference = true) (hd : decode B pc = .ok (.aaload, 1)) (hp : pc + 1 = pc') (hZ : Z.Warmed39 s.vm) (eT : T.heap = h) (A : own_Ar Z h a ty vs) (hj : ¬ j < 0) (hv : vs[j.toNatClampNeg]? = some v) (g : own_Go p.tables e below (T.setTop (mkF m pc' Ls (v :: S))) RR) : own_Go p.tables e below (T.setTop (mkF m pc Ls (.int j :: .ref a :: S))) RR := by
  subst hp
  obtain ⟨cl, Ar, -, hin, hat⟩ := A.at hj hv
  exact own_st (fun t k => X.aaload hx (j := j) (v := v) (by rw [eT]; exact Ar.1) (State.isArrayOf_alike hZ.alike Ar.2.1) hty Ar.2.2 hin hat (g := mkF m pc Ls (.int j :: .ref a :: S)) rfl rfl (hb hby hd) t k) g
theorem own_iastore (X : Stand p l e R s m args below meth c T locs cells slots) (hx : p.tables.exec = Jvm.exec) {B : ByteArray} (hby : c.code = B) {pc pc' : Nat} {Ls : Array Slot} {S : List Value} {a : Addr} {j : Int32} {x : Int32} {v : Value} {vs : List Value} (hd : decode B pc = .ok (.iastore, 1)) (hp : pc + 1 = pc') (hZ : Z.Warmed39 s.vm) (eT : T.heap = h) (A : own_Ar Z h a .int vs) (hj : ¬ j < 0) (hv : vs[j.toNatClampNeg]? = some v) (g : ∀ (T' : State) (h' : Heap), Stand p l e R s m args below meth c T' (locs ++ [⟨a, j.toNatClampNeg⟩]) cells slots → T'.heap = h' → Wr h h' a j.toNatClampNeg (.int x) → own_Ar Z h' a .int (vs.set j.toNatClampNeg (.int x)) → own_Go p.tables e below (T'.setTop (mkF m pc' Ls S)) RR) : own_Go p.tables e below (T.setTop (mkF m pc Ls ((.int x) :: .int j :: .ref a :: S))) RR := by
  subst hp
  obtain ⟨cl, Ar, r, hin, hat⟩ := A.at hj hv
  obtain ⟨T', h', X', e', W', st⟩ := stI X hx hZ eT Ar (j := j) (x := x) hin (g := mkF m pc Ls ((.int x) :: .int j :: .ref a :: S)) rfl rfl (hb hby hd)
  exact own_st st (g T' h' X' e' W' (A.same W'))
theorem own_lastore (X : Stand p l e R s m args below meth c T locs cells slots) (hx : p.tables.exec = Jvm.exec) {B : ByteArray} (hby : c.code = B) {pc pc' : Nat} {Ls : Array Slot} {S : List Value} {a : Addr} {j : Int32} {x : Int64} {v : Value} {vs : List Value} (hd : decode B pc = .ok (.lastore, 1)) (hp : pc + 1 = pc') (hZ : Z.Warmed39 s.vm) (eT : T.heap = h) (A : own_Ar Z h a .long vs) (hj : ¬ j < 0) (hv : vs[j.toNatClampNeg]? = some v) (g : ∀ (T' : State) (h' : Heap), Stand p l e R s m args below meth c T' (locs ++ [⟨a, j.toNatClampNeg⟩]) cells slots → T'.heap = h' → Wr h h' a j.toNatClampNeg (.long x) → own_Ar Z h' a .long (vs.set j.toNatClampNeg (.long x)) → own_Go p.tables e below (T'.setTop (mkF m pc' Ls S)) RR) : own_Go p.tables e below (T.setTop (mkF m pc Ls ((.long x) :: .int j :: .ref a :: S))) RR := by
  subst hp
  obtain ⟨cl, Ar, r, hin, hat⟩ := A.at hj hv
  obtain ⟨T', h', X', e', W', st⟩ := stJ X hx hZ eT Ar (j := j) (x := x) hin (g := mkF m pc Ls ((.long x) :: .int j :: .ref a :: S)) rfl rfl (hb hby hd)
  exact own_st st (g T' h' X' e' W' (A.same W'))
theorem own_castore (X : Stand p l e R s m args below meth c T locs cells slots) (hx : p.tables.exec = Jvm.exec) {B : ByteArray} (hby : c.code = B) {pc pc' : Nat} {Ls : Array Slot} {S : List Value} {a : Addr} {j : Int32} {x : Int32} {v : Value} {vs : List Value} (hd : decode B pc = .ok (.castore, 1)) (hp : pc + 1 = pc') (hZ : Z.Warmed39 s.vm) (eT : T.heap = h) (A : own_Ar Z h a .char vs) (hj : ¬ j < 0) (hv : vs[j.toNatClampNeg]? = some v) (g : ∀ (T' : State) (h' : Heap), Stand p l e R s m args below meth c T' (locs ++ [⟨a, j.toNatClampNeg⟩]) cells slots → T'.heap = h' → Wr h h' a j.toNatClampNeg (.int (nar .char x)) → own_Ar Z h' a .char (vs.set j.toNatClampNeg (.int (nar .char x))) → own_Go p.tables e below (T'.setTop (mkF m pc' Ls S)) RR) : own_Go p.tables e below (T.setTop (mkF m pc Ls ((.int x) :: .int j :: .ref a :: S))) RR := by
  subst hp
  obtain ⟨cl, Ar, r, hin, hat⟩ := A.at hj hv
  obtain ⟨T', h', X', e', W', st⟩ := stC X hx hZ eT Ar (j := j) (x := x) hin (g := mkF m pc Ls ((.int x) :: .int j :: .ref a :: S)) rfl rfl (hb hby hd)
  exact own_st st (g T' h' X' e' W' (A.same W'))
theorem own_bastore (X : Stand p l e R s m args below meth c T locs cells slots) (hx : p.tables.exec = Jvm.exec) {B : ByteArray} (hby : c.code = B) {pc pc' : Nat} {Ls : Array Slot} {S : List Value} {a : Addr} {j : Int32} {x : Int32} {v : Value} {vs : List Value} (hd : decode B pc = .ok (.bastore, 1)) (hp : pc + 1 = pc') (hZ : Z.Warmed39 s.vm) (eT : T.heap = h) (A : own_Ar Z h a .byte vs) (hj : ¬ j < 0) (hv : vs[j.toNatClampNeg]? = some v) (g : ∀ (T' : State) (h' : Heap), Stand p l e R s m args below meth c T' (locs ++ [⟨a, j.toNatClampNeg⟩]) cells slots → T'.heap = h' → Wr h h' a j.toNatClampNeg (.int x.toInt8.toInt32) → own_Ar Z h' a .byte (vs.set j.toNatClampNeg (.int x.toInt8.toInt32)) → own_Go p.tables e below (T'.setTop (mkF m pc' Ls S)) RR) : own_Go p.tables e below (T.setTop (mkF m pc Ls ((.int x) :: .int j :: .ref a :: S))) RR := by
  subst hp
  obtain ⟨cl, Ar, r, hin, hat⟩ := A.at hj hv
  obtain ⟨T', h', X', e', W', st⟩ := stB X hx hZ eT Ar (j := j) (x := x) hin (g := mkF m pc Ls ((.int x) :: .int j :: .ref a :: S)) rfl rfl (hb hby hd)
  exact own_st st (g T' h' X' e' W' (A.same W'))
theorem own_len (X : Stand p l e R s m args below meth c T locs cells slots) (hx : p.tables.exec = Jvm.exec) {B : ByteArray} (hby : c.code = B) {pc pc' : Nat} {Ls : Array Slot} {S : List Value} {a : Addr} {ty : FieldType} {n : Int32} {vs : List Value} (hd : decode B pc = .ok (.arraylength, 1)) (hp : pc + 1 = pc') (hZ : Z.Warmed39 s.vm) (eT : T.heap = h) (A : own_Ar Z h a ty vs) (hn : vs.length.toInt32 = n) (g : own_Go p.tables e below (T.setTop (mkF m pc' Ls (.int n :: S))) RR) : own_Go p.tables e below (T.setTop (mkF m pc Ls (.ref a :: S))) RR := by
  subst hp hn
  obtain ⟨cl, Ar, r⟩ := A
  subst r
  exact own_st (fun t k => X.arraylength hx (by rw [eT]; exact Ar.1) (State.isArrayOf_alike hZ.alike Ar.2.1) (g := mkF m pc Ls (.ref a :: S)) rfl rfl (hb hby hd) t (by rw [← Array.length_toList]; exact k)) g
theorem own_clone (X : Stand p l e R s m args below meth c T locs cells slots) (hx : p.tables.exec = Jvm.exec) {B : ByteArray} (hby : c.code = B) {pc pc' : Nat} {Ls : Array Slot} {S : List Value} {own ad : String} {index : Nat} {a : Addr} {cl : Cell} {ty : FieldType} (hd : decode B pc = .ok (.invokevirtual index, 3)) (hp : pc + 3 = pc') (hZ : Z.Warmed39 s.vm) (hown : s.vm.findClass own = some m.cls) (w1 : (Cond.methodLink own index ⟨ad, "clone", "()Ljava/lang/Object;"⟩).before a0 Z = true) (w2 : (Cond.sameMethod ad "java/lang/Object" "clone" "()Ljava/lang/Object;").before a0 Z = true) (w3 : (Cond.native ⟨"java/lang/Object", "clone", "()Ljava/lang/Object;"⟩).before a0 Z = true) (w4 : (Cond.instanceMethod ⟨"java/lang/Object", "clone", "()Ljava/lang/Object;"⟩).before a0 Z = true) (w5 : (Cond.selects ad ⟨ad, "clone", "()Ljava/lang/Object;"⟩ ⟨"java/lang/Object", "clone", "()Ljava/lang/Object;"⟩).before a0 Z = true) (w6 : (Cond.castable ad "java/lang/Cloneable").before a0 Z = true) (eT : T.heap = h) (A : Arr Z h a cl ty) (E : Exa Z h a ad) (F : FitC Z cl) (hsz : Ls.size = c.maxLocals) (hf : 1 ≤ R.frames) {W cap : Nat} (hW : (S.map fun v => v.category).sum ≤ W) (hl : W + 14 ≤ R.locals) (hcap : cl.slots.size ≤ cap) (hc : cells + 1 ≤ R.cells) (hsl : slots + cap ≤ R.slots) (g : ∀ (T' : State) (h' : Heap) (b : Addr), Stand p l e R s m args below meth c T' locs (cells + 1) (slots + cap) → T'.heap = h' → b = h.size → Ext h h' → Arr Z h' b (cloneOf cl) ty → Exa Z h' b ad → own_Go p.tables e below (T'.setTop (mkF m pc' Ls (.ref b :: S))) RR) : own_Go p.tables e below (T.setTop (mkF m pc Ls (.ref a :: S))) RR := by
  subst hp
  obtain ⟨T', h', X', e', E', A', F', st⟩ := cloneA X hx hZ hown w1 w2 w3 w4 w5 w6 eT A E F (g := mkF m pc Ls (.ref a :: S)) rfl hsz rfl (hb hby hd) hf (W := W) (by show 2 * 0 + _ ≤ _; omega) hl hcap hc hsl
  exact own_st st (g T' h' _ X' e' rfl E' A' F')
theorem own_Ar.arv {a : Addr} {ty : FieldType} {vs : List Value} {dv : Value} (F : own_Ar Z h a ty vs) (hl : vs.length < 2 ^ 31) (hf : ∀ v ∈ vs, fits ty v = true) : ∃ k, vs.length.toInt32.toNatClampNeg = vs.length ∧ Arv Z h a k ty vs.length.toInt32 vs dv := by
  obtain ⟨c, A, r⟩ := F
  subst r
  have e : c.slots.toList.length = c.slots.size := Array.length_toList
  have i : c.slots.size.toInt32.toInt = (c.slots.size : Int) := len_toInt (by rw [← e]; exact hl)
  have z : c.slots.size.toInt32.toNatClampNeg = c.slots.size := by simp only [Int32.toNatClampNeg, i]; rfl
  have g : ∀ k, k < c.slots.size → c.slots[k]? = some (c.slots.toList.getD k dv) := fun k hk => by
    rw [List.getD_eq_getElem?_getD, Array.getElem?_toList, Array.getElem?_eq_getElem hk]; rfl
  rw [e]
  refine ⟨c.cls, z, c, A, rfl, z.symm, ?_, g, fun k hk => ?_⟩
  · intro q
    have q' := Int32.lt_iff_toInt_lt.mp q
    rw [i] at q'
    have z0 : (0 : Int32).toInt = 0 := rfl
    omega
  · have q := g k hk
    refine hf _ ?_
    rw [← Array.getElem?_toList] at q
    exact List.mem_of_getElem? q
theorem own_Ar.of_arv {a : Addr} {k : ClassId} {z : Int32} {ty : FieldType} {vs : List Value} {dv : Value} (F : Arv Z h a k ty z vs dv) (hl : vs.length = z.toNatClampNeg) : own_Ar Z h a ty vs := by
  obtain ⟨c, A, -, S, -, H, -⟩ := F
  refine ⟨c, A, ?_⟩
  apply List.ext_getElem?
  intro i
  rw [Array.getElem?_toList]
  by_cases q : i < c.slots.size
  · rw [H i q, List.getD_eq_getElem?_getD, List.getElem?_eq_getElem (by omega)]; rfl
  · rw [Array.getElem?_eq_none (by omega), List.getElem?_eq_none (by omega)]
theorem own_range {vs : List Value} {dv : Value} : ∀ (n sp : Nat), sp + n ≤ vs.length → ((List.range n).map fun i => vs.getD (sp + i) dv) = (vs.drop sp).take n := by
  intro n sp hle
  apply List.ext_getElem?
  intro i
  by_cases q : i < n
  · rw [List.getElem?_map, List.getElem?_range q, List.getElem?_take_of_lt q, List.getElem?_drop, List.getElem?_eq_getElem (by omega)]
    simp only [Option.map_some]
    rw [List.getD_eq_getElem?_getD, List.getElem?_eq_getElem (by omega)]; rfl
  · rw [List.getElem?_eq_none (by simp; omega), List.getElem?_eq_none (by simp; omega)]
theorem own_cp (X : Stand p l e R s m args below meth c T locs cells slots) (hx : p.tables.exec = Jvm.exec) {B : ByteArray} (hby : c.code = B) {pc pc' : Nat} {Ls : Array Slot} {S : List Value} {own : String} {index : Nat} {a b : Addr} {sp dp nn : Int32} {vs vd us : List Value} (hd : decode B pc = .ok (.invokestatic index, 3)) (hp : pc + 3 = pc') (hZ : Z.Warmed39 s.vm) (hown : s.vm.findClass own = some m.cls) (w1 : (Cond.methodLink own index Jvm.Stand.acN).before a0 Z = true) (w2 : (Cond.native Jvm.Stand.acN).before a0 Z = true) (w3 : (Cond.static Jvm.Stand.acN).before a0 Z = true) (w4 : (Cond.initialized "java/lang/System").before a0 Z = true) (eT : T.heap = h) {ty : FieldType} (hty : refKind ty = false) (A : own_Ar Z h a ty vs) (D : own_Ar Z h b ty vd) (hA : ∀ v ∈ vs, fits ty v = true) (hD : ∀ v ∈ vd, fits ty v = true) (h1 : ¬ sp < 0) (h2 : ¬ dp < 0) (h3 : ¬ nn < 0) (h4 : sp.toNatClampNeg + nn.toNatClampNeg ≤ vs.length) (h5 : dp.toNatClampNeg + nn.toNatClampNeg ≤ vd.length) (lA : vs.length < 2 ^ 31) (lD : vd.length < 2 ^ 31) (hus : vd.take dp.toNatClampNeg ++ (vs.drop sp.toNatClampNeg).take nn.toNatClampNeg ++ vd.drop (dp.toNatClampNeg + nn.toNatClampNeg) = us) {n0 : Nat} (N : Fr n0 locs) (ge : n0 ≤ b) (hsz : Ls.size = c.maxLocals) (hf : 1 ≤ R.frames) {W : Nat} (hW : (S.map fun v => v.category).sum ≤ W) (hlo : W + (nativeFrameWords "java/lang/System" "arraycopy" 5 + 11) ≤ R.locals) (g : ∀ (T' : State) (h' : Heap) (L : List Loc), Stand p l e R s m args below meth c T' L cells slots → T'.heap = h' → Fr n0 L → Keep h h' [b] → own_Ar Z h' b ty us → own_Go p.tables e below (T'.setTop (mkF m pc' Ls S)) RR) : own_Go p.tables e below (T.setTop (mkF m pc Ls (.int nn :: .int dp :: .ref b :: .int sp :: .ref a :: S))) RR := by
  subst hp
  obtain ⟨k, q1, A'⟩ := A.arv (dv := .null) lA hA
  obtain ⟨k', q2, D'⟩ := D.arv (dv := .null) lD hD
  obtain ⟨T', h', L, X', e', N', K', B', st⟩ := cpA X hx hZ hown w1 w2 w3 w4 eT A' D' (Or.inl ⟨rfl, hty⟩) h1 h2 h3 (by rw [q1]; exact h4) (by rw [q2]; exact h5) rfl h5 N ge (g := mkF m pc Ls (.int nn :: .int dp :: .ref b :: .int sp :: .ref a :: S)) rfl hsz rfl (hb hby hd) hf (W := W) (by show 2 * 0 + _ ≤ _; omega) hlo
  rw [own_range _ _ h4, hus] at B'
  refine own_st st (g T' h' L X' e' N' K' (own_Ar.of_arv B' ?_))
  rw [q2, ← hus]
  simp only [List.length_append, List.length_take, List.length_drop]
  omega
theorem own_callSpB (X : Stand p l e R s m args below meth c T locs cells slots) (hx : p.tables.exec = Jvm.exec) (hZ : Z.Warmed39 s.vm) {y : MethodName} {rc rs : Nat} {W : Nat} {as' : Array Value} (hK : Back l R p e below s args y 3 W (fun A a => a = as' ∧ A.U.heap = h ∧ A.cells + rc ≤ R.cells ∧ A.slots + rs ≤ R.slots) (fun A _ v B => ∃ L, Q v B.U.heap L ∧ B.locs = A.locs ++ L ∧ B.cells = A.cells + rc ∧ B.slots = A.slots + rs)) (hin : y.name = "<init>") {own : String} {index : Nat} (hown : s.vm.findClass own = some m.cls) (w1 : (Cond.methodLink own index y).before a0 Z = true) (w4 : (Cond.instanceMethod y).before a0 Z = true) {bytes : ByteArray} {maxL : Nat} (w5 : (Cond.code y bytes maxL none).before a0 Z = true) (hy : y.cls ≠ "java/lang/invoke/MethodHandle" ∧ y.cls ≠ "java/lang/invoke/VarHandle") {a : Addr} {pc : Nat} {Ls : Array Slot} (hsz : Ls.size = c.maxLocals) {argsL rest st : List Value} (ha : (Value.ref a :: argsL).toArray = as') (hlen : ∀ sig, parseMethodDescriptor y.desc = some sig → argsL.length = sig.parameters.length) (hst : st = argsL.reverse ++ .ref a :: rest) (hW : (rest.map fun v => v.category).sum ≤ W) (hd : decode c.code pc = .ok (.invokespecial index, 3)) (eT : T.heap = h) (hc : cells + rc ≤ R.cells) (hs : slots + rs ≤ R.slots) (k : ∀ (v : Option Value) (T' : State) (L : List Loc), Stand p l e R s m args below meth c T' (locs ++ L) (cells + rc) (slots + rs) → Q v T'.heap L → own_Go p.tables e below (T'.setTop (mkF m (pc + 3) Ls (v.toList ++ rest))) RR) :
    own_Go p.tables e below (T.setTop (mkF m pc Ls st)) RR := by
  subst ha
  obtain ⟨v, _, ⟨T', L', k', n'⟩, -, X', ⟨Lc, hQ, l', y', z'⟩, stp⟩ := X.specialBack hx (y := y) hin hown (mvT hZ w1) (mvT hZ w4) (mvT hZ w5) hy hK (g := mkF m pc Ls st) rfl hsz (Steps.refl _) (a := a) (argsL := argsL) (rest := rest) hlen hst (by show 2 * 0 + _ ≤ _; omega) hd (fun _ _ => ⟨rfl, eT, hc, hs⟩)
  dsimp only [Pt.U, Pt.locs, Pt.cells, Pt.slots] at X' l' y' z' stp hQ
  subst l' y' z'
  exact own_st (fun t k => stp.trans k) (k v T' Lc X' hQ)
theorem own_callVB (X : Stand p l e R s m args below meth c T locs cells slots) (hx : p.tables.exec = Jvm.exec) (hZ : Z.Warmed39 s.vm) {y : MethodName} {rc rs : Nat} {W : Nat} {as' : Array Value} (hK : Back l R p e below s args y 3 W (fun A a => a = as' ∧ A.U.heap = h ∧ A.cells + rc ≤ R.cells ∧ A.slots + rs ≤ R.slots) (fun A _ v B => ∃ L, Q v B.U.heap L ∧ B.locs = A.locs ++ L ∧ B.cells = A.cells + rc ∧ B.slots = A.slots + rs)) {own C : String} {index : Nat} (hown : s.vm.findClass own = some m.cls) (w1 : (Cond.methodLink own index y).before a0 Z = true) (w2 : (Cond.declares y).before a0 Z = true) (w3 : (Cond.selects C y y).before a0 Z = true) (w4 : (Cond.instanceMethod y).before a0 Z = true) (hy : y.cls ≠ "java/lang/invoke/MethodHandle" ∧ y.cls ≠ "java/lang/invoke/VarHandle") {a : Addr} (E : Exa Z h a C) {pc : Nat} {Ls : Array Slot} (hsz : Ls.size = c.maxLocals) {argsL rest st : List Value} (ha : (Value.ref a :: argsL).toArray = as') (hlen : ∀ sig, parseMethodDescriptor y.desc = some sig → argsL.length = sig.parameters.length) (hst : st = argsL.reverse ++ .ref a :: rest) (hW : (rest.map fun v => v.category).sum ≤ W) (hd : decode c.code pc = .ok (.invokevirtual index, 3)) (eT : T.heap = h) (hc : cells + rc ≤ R.cells) (hs : slots + rs ≤ R.slots) (k : ∀ (v : Option Value) (T' : State) (L : List Loc), Stand p l e R s m args below meth c T' (locs ++ L) (cells + rc) (slots + rs) → Q v T'.heap L → own_Go p.tables e below (T'.setTop (mkF m (pc + 3) Ls (v.toList ++ rest))) RR) :
    own_Go p.tables e below (T.setTop (mkF m pc Ls st)) RR := by
  subst ha
  obtain ⟨cB, kB, qa, qb, qc⟩ := isOf hZ eT E
  obtain ⟨v, _, ⟨T', L', k', n'⟩, -, X', ⟨Lc, hQ, l', y', z'⟩, stp⟩ := X.virtualBack hx (y := y) (z := y) hown (mvT hZ w1) (mvT hZ w2) (notFace_of_selects (args := #[]) (mvT hZ w3)) (mvT hZ w3) (mvT hZ w4) hy hK qa qc (g := mkF m pc Ls st) rfl hsz (Steps.refl _) (argsL := argsL) (rest := rest) hlen hst (by show 2 * 0 + _ ≤ _; omega) hd (fun _ _ => ⟨rfl, eT, hc, hs⟩)
  dsimp only [Pt.U, Pt.locs, Pt.cells, Pt.slots] at X' l' y' z' stp hQ
  subst l' y' z'
  exact own_st (fun t k => stp.trans k) (k v T' Lc X' hQ)
theorem own_callSB (X : Stand p l e R s m args below meth c T locs cells slots) (hx : p.tables.exec = Jvm.exec) (hZ : Z.Warmed39 s.vm) {y : MethodName} {rc rs : Nat} {W : Nat} {as' : Array Value} (hK : Back l R p e below s args y 3 W (fun A a => a = as' ∧ A.U.heap = h ∧ A.cells + rc ≤ R.cells ∧ A.slots + rs ≤ R.slots) (fun A _ v B => ∃ L, Q v B.U.heap L ∧ B.locs = A.locs ++ L ∧ B.cells = A.cells + rc ∧ B.slots = A.slots + rs)) {own : String} {index : Nat} (hown : s.vm.findClass own = some m.cls) (w1 : (Cond.methodLink own index y).before a0 Z = true) (w2 : (Cond.static y).before a0 Z = true) (w3 : (Cond.initialized y.cls).before a0 Z = true) {bytes : ByteArray} {maxL : Nat} {rt : Option FieldType} (w4 : (Cond.code y bytes maxL rt).before a0 Z = true) (hy : y.cls ≠ "java/lang/invoke/MethodHandle" ∧ y.cls ≠ "java/lang/invoke/VarHandle") {pc : Nat} {Ls : Array Slot} (hsz : Ls.size = c.maxLocals) {argsL rest st : List Value} (ha : argsL.toArray = as') (hlen : ∀ sig, parseMethodDescriptor y.desc = some sig → argsL.length = sig.parameters.length) (hst : st = argsL.reverse ++ rest) (hW : (rest.map fun v => v.category).sum ≤ W) (hd : decode c.code pc = .ok (.invokestatic index, 3)) (eT : T.heap = h) (hc : cells + rc ≤ R.cells) (hs : slots + rs ≤ R.slots) (k : ∀ (v : Option Value) (T' : State) (L : List Loc), Stand p l e R s m args below meth c T' (locs ++ L) (cells + rc) (slots + rs) → Q v T'.heap L → own_Go p.tables e below (T'.setTop (mkF m (pc + 3) Ls (v.toList ++ rest))) RR) :
    own_Go p.tables e below (T.setTop (mkF m pc Ls st)) RR := by
  subst ha
  obtain ⟨v, _, ⟨T', L', k', n'⟩, -, X', ⟨Lc, hQ, l', y', z'⟩, stp⟩ := Jvm.LawKit.callS X hx (y := y) hown (mvT hZ w1) (mvT hZ w2) (mvT hZ w3) (mvT hZ w4) hy hK (g := mkF m pc Ls st) rfl hsz (argsL := argsL) (rest := rest) hlen hst (by show 2 * 0 + _ ≤ _; omega) hd (fun _ _ => ⟨rfl, eT, hc, hs⟩)
  dsimp only [Pt.U, Pt.locs, Pt.cells, Pt.slots] at X' l' y' z' stp hQ
  subst l' y' z'
  exact own_st stp (k v T' Lc X' hQ)
end Own
theorem own_nar0 : nar .boolean (0 : Int32) = 0 := by decide
theorem own_nar1 : nar .boolean (1 : Int32) = 1 := by decide
def own_ti (k s v f : Int32) : Int32 := if k = 0 then (if s = 0 then (if v = 0 then 0 else 1) else 1) else if k = 1 then nar .boolean s else if k = 2 then nar .boolean f else if k = 3 then nar .boolean v else (if v = 0 then 0 else if f = 0 then 1 else 0)
theorem own_pn0 : plainFor x = true := plainFor_of_name (by first | (simp [x, plainName, overriddenIn]; done) | decide +kernel)
theorem own_pn1 : plainFor (⟨"com/example/services_on_tap/servicesontap/UserScope", "takesIn", "(ZZZ)Z"⟩ : MethodName) = true := plainFor_of_name (by first | (simp [plainName, overriddenIn]; done) | decide +kernel)
theorem own_pn2 : plainFor (⟨"java/lang/Enum", "ordinal", "()I"⟩ : MethodName) = true := plainFor_of_name (by first | (simp [plainName, overriddenIn]; done) | decide +kernel)
theorem own_d2_0 : decode jdk_37_method_2_code 0 = .ok (.aload_n 0, 1) := by decide +kernel
theorem own_d2_1 : decode jdk_37_method_2_code 1 = .ok (.getfield 7, 3) := by decide +kernel
theorem own_d2_4 : decode jdk_37_method_2_code 4 = .ok (.ireturn, 1) := by decide +kernel
theorem own_ef_rm_or (m : MethodId) (a1 : Addr) : entryFrame m #[(.ref a1)] 1 = mkF m 0 #[.val (.ref a1)] [] := by first | (simp [entryFrame, mkF, argsToLocals, Value.category]; done) | rfl
def Qrm_or (Z : State) (a1 : Addr) (k : Int32) (h0 : Heap) (n0 : Nat) (v : Option Value) (h : Heap) (L : List Loc) : Prop := v = some (.int k) ∧ Fr n0 L ∧ h = h0
set_option maxRecDepth 65536 in
set_option maxHeartbeats 40000000 in
theorem rm_or (l : Launch) (Z : State) (a0 : Array Value) (hw : ∀ d ∈ tables_1, d.before a0 Z = true) (ws : List Jvm.Cond) (a1 : Addr) (k : Int32) (h0 : Heap) (n0 : Nat) (F_o : Fld Z h0 a1 "java/lang/Enum" "ordinal" "I" (.int k)) :
    own_Met l (⟨"java/lang/Enum", "ordinal", "()I"⟩ : MethodName) jdk_37_method_2_code 1 (some .int) ws ({ frames := 0, cells := 0, slots := 0, locals := 0 } : Room) #[(.ref a1)] Z h0 (Qrm_or Z a1 k h0 n0) := by
  refine own_body own_pn2 ?_
  intro p e s m below meth c T0 X0 hx hby hml hown hnm hret hlk hZ e0
  have N0 := Fr.nil n0
  refine own_st (fun t k => castTop (own_ef_rm_or m a1) k) ?_
  show own_Go p.tables e below (T0.setTop (mkF m 0 #[.val (.ref a1)] [])) _
  refine own_aloadN X0 hx hby own_d2_0 (pc' := 1) rfl rfl rfl ?_
  refine own_getF X0 hx hby own_d2_1 (pc' := 4) rfl hZ hown (host := "") (Or.inl (hw _ (List.mem_of_getElem? (i := 16) rfl))) Via.refl e0 F_o ?_
  intro T1 X1 e1
  exact own_retI X1 hx hret (hb hby own_d2_4) hlk (by decide) (by decide) ⟨rfl, N0, e1⟩
theorem own_pd0 : parseMethodDescriptor "()I" = some ⟨[], some .int⟩ := by decide +kernel
theorem own_d1_0 : decode prog_38_method_4_code 0 = .ok (.aload_n 0, 1) := by decide +kernel
theorem own_d1_1 : decode prog_38_method_4_code 1 = .ok (.invokevirtual 42, 3) := by decide +kernel
theorem own_d1_4 : decode prog_38_method_4_code 4 = .ok (.tableswitch 36 0 4 #[46, 62, 66, 70, 74], 36) := by decide +kernel
theorem own_d1_50 : decode prog_38_method_4_code 50 = .ok (.iload_n 1, 1) := by decide +kernel
theorem own_d1_51 : decode prog_38_method_4_code 51 = .ok (.ifCond .ne 7, 3) := by decide +kernel
theorem own_d1_54 : decode prog_38_method_4_code 54 = .ok (.iload_n 2, 1) := by decide +kernel
theorem own_d1_55 : decode prog_38_method_4_code 55 = .ok (.ifCond .eq 7, 3) := by decide +kernel
theorem own_d1_58 : decode prog_38_method_4_code 58 = .ok (.iconst 1, 1) := by decide +kernel
theorem own_d1_59 : decode prog_38_method_4_code 59 = .ok (.goto 32, 3) := by decide +kernel
theorem own_d1_62 : decode prog_38_method_4_code 62 = .ok (.iconst 0, 1) := by decide +kernel
theorem own_d1_63 : decode prog_38_method_4_code 63 = .ok (.goto 28, 3) := by decide +kernel
theorem own_d1_91 : decode prog_38_method_4_code 91 = .ok (.ireturn, 1) := by decide +kernel
theorem own_ef_rm_t0 (m : MethodId) (a1 : Addr) (p1 : Int32) (p2 : Int32) (p3 : Int32) : entryFrame m #[(.ref a1), (.int p1), (.int p2), (.int p3)] 4 = mkF m 0 #[.val (.ref a1), .val (.int p1), .val (.int p2), .val (.int p3)] [] := by first | (simp [entryFrame, mkF, argsToLocals, Value.category]; done) | rfl
def Qrm_t0 (Z : State) (a1 : Addr) (p1 : Int32) (p2 : Int32) (p3 : Int32) (h0 : Heap) (n0 : Nat) (v : Option Value) (h : Heap) (L : List Loc) : Prop := v = some (.int (own_ti (0 : Int32) p1 p2 p3)) ∧ Fr n0 L ∧ h = h0
set_option maxRecDepth 65536 in
set_option maxHeartbeats 40000000 in
theorem rm_t0 (l : Launch) (Z : State) (a0 : Array Value) (hw : ∀ d ∈ tables_1, d.before a0 Z = true) (ws : List Jvm.Cond) (a1 : Addr) (p1 : Int32) (p2 : Int32) (p3 : Int32) (h0 : Heap) (n0 : Nat) (F_o : Fld Z h0 a1 "java/lang/Enum" "ordinal" "I" (.int (0 : Int32))) (E_o : Exa Z h0 a1 "com/example/services_on_tap/servicesontap/UserScope") :
    own_Met l (⟨"com/example/services_on_tap/servicesontap/UserScope", "takesIn", "(ZZZ)Z"⟩ : MethodName) prog_38_method_4_code 4 (some .boolean) ws ({ frames := 1, cells := 0, slots := 0, locals := 12 } : Room) #[(.ref a1), (.int p1), (.int p2), (.int p3)] Z h0 (Qrm_t0 Z a1 p1 p2 p3 h0 n0) := by
  refine own_body own_pn1 ?_
  intro p e s m below meth c T0 X0 hx hby hml hown hnm hret hlk hZ e0
  have N0 := Fr.nil n0
  refine own_st (fun t k => castTop (own_ef_rm_t0 m a1 p1 p2 p3) k) ?_
  show own_Go p.tables e below (T0.setTop (mkF m 0 #[.val (.ref a1), .val (.int p1), .val (.int p2), .val (.int p3)] [])) _
  refine own_aloadN X0 hx hby own_d1_0 (pc' := 1) rfl rfl rfl ?_
  refine own_callVU X0 hx hZ (rm_or l Z a0 hw [] a1 (0 : Int32) h0 n0 F_o) hown (hw _ (List.mem_of_getElem? (i := 9) rfl)) (hw _ (List.mem_of_getElem? (i := 10) rfl)) (hw _ (List.mem_of_getElem? (i := 11) rfl)) (hw _ (List.mem_of_getElem? (i := 13) rfl)) (hw _ (List.mem_of_getElem? (i := 12) rfl)) (hw _ (List.mem_of_getElem? (i := 15) rfl)) (hw _ (List.mem_of_getElem? (i := 14) rfl)) (by decide) E_o (W := 0) (by decide) (by decide) (by rw [hml]; rfl) (argsL := []) (rest := []) rfl (lenOf own_pd0 rfl) rfl (Nat.le_of_eq rfl) (hb hby own_d1_1) e0 (by decide) (by decide) ?_
  intro v2 T2 L2 X2 hQ2
  obtain ⟨hv2, N2q, e2⟩ := hQ2
  subst hv2
  have N2 := Fr.app N0 N2q
  show own_Go p.tables e below (T2.setTop (mkF m 4 #[.val (.ref a1), .val (.int p1), .val (.int p2), .val (.int p3)] [(.int (0 : Int32))])) _
  refine own_tsw X2 hx hby own_d1_4 (pc' := 50) (o := 46) (by decide) (by decide) (by decide) ?_
  refine own_iloadN X2 hx hby own_d1_50 (pc' := 51) rfl rfl ?_
  by_cases hc51 : p1 = (0 : Int32)
  · skip
    refine own_ifNo X2 hx hby own_d1_51 (pc' := 54) rfl (teq hc51).2 ?_
    refine own_iloadN X2 hx hby own_d1_54 (pc' := 55) rfl rfl ?_
    by_cases hc55 : p2 = (0 : Int32)
    · skip
      refine own_ifYes X2 hx hby own_d1_55 (pc' := 62) (by decide) (teq hc55).1 ?_
      refine own_iconst X2 hx hby own_d1_62 (pc' := 63) rfl (z := (0 : Int32)) (by decide) ?_
      refine own_goto X2 hx hby own_d1_63 (pc' := 91) (by decide) ?_
      exact own_retZ (t := .boolean) X2 hx hret (by simp) (hb hby own_d1_91) hlk (by decide) (by decide) ⟨congrArg (fun z => some (Value.int z)) (own_nar0.trans (by simp [own_ti, hc51, hc55])), N2, e2⟩
    · skip
      refine own_ifNo X2 hx hby own_d1_55 (pc' := 58) rfl (feq hc55).1 ?_
      refine own_iconst X2 hx hby own_d1_58 (pc' := 59) rfl (z := (1 : Int32)) (by decide) ?_
      refine own_goto X2 hx hby own_d1_59 (pc' := 91) (by decide) ?_
      exact own_retZ (t := .boolean) X2 hx hret (by simp) (hb hby own_d1_91) hlk (by decide) (by decide) ⟨congrArg (fun z => some (Value.int z)) (own_nar1.trans (by simp [own_ti, hc51, hc55])), N2, e2⟩
  · skip
    refine own_ifYes X2 hx hby own_d1_51 (pc' := 58) (by decide) (feq hc51).2 ?_
    refine own_iconst X2 hx hby own_d1_58 (pc' := 59) rfl (z := (1 : Int32)) (by decide) ?_
    refine own_goto X2 hx hby own_d1_59 (pc' := 91) (by decide) ?_
    exact own_retZ (t := .boolean) X2 hx hret (by simp) (hb hby own_d1_91) hlk (by decide) (by decide) ⟨congrArg (fun z => some (Value.int z)) (own_nar1.trans (by simp [own_ti, hc51])), N2, e2⟩
theorem own_d1_66 : decode prog_38_method_4_code 66 = .ok (.iload_n 1, 1) := by decide +kernel
theorem own_d1_67 : decode prog_38_method_4_code 67 = .ok (.goto 24, 3) := by decide +kernel
theorem own_ef_rm_t1 (m : MethodId) (a1 : Addr) (p1 : Int32) (p2 : Int32) (p3 : Int32) : entryFrame m #[(.ref a1), (.int p1), (.int p2), (.int p3)] 4 = mkF m 0 #[.val (.ref a1), .val (.int p1), .val (.int p2), .val (.int p3)] [] := by first | (simp [entryFrame, mkF, argsToLocals, Value.category]; done) | rfl
def Qrm_t1 (Z : State) (a1 : Addr) (p1 : Int32) (p2 : Int32) (p3 : Int32) (h0 : Heap) (n0 : Nat) (v : Option Value) (h : Heap) (L : List Loc) : Prop := v = some (.int (own_ti (1 : Int32) p1 p2 p3)) ∧ Fr n0 L ∧ h = h0
set_option maxRecDepth 65536 in
set_option maxHeartbeats 40000000 in
theorem rm_t1 (l : Launch) (Z : State) (a0 : Array Value) (hw : ∀ d ∈ tables_1, d.before a0 Z = true) (ws : List Jvm.Cond) (a1 : Addr) (p1 : Int32) (p2 : Int32) (p3 : Int32) (h0 : Heap) (n0 : Nat) (F_o : Fld Z h0 a1 "java/lang/Enum" "ordinal" "I" (.int (1 : Int32))) (E_o : Exa Z h0 a1 "com/example/services_on_tap/servicesontap/UserScope") :
    own_Met l (⟨"com/example/services_on_tap/servicesontap/UserScope", "takesIn", "(ZZZ)Z"⟩ : MethodName) prog_38_method_4_code 4 (some .boolean) ws ({ frames := 1, cells := 0, slots := 0, locals := 12 } : Room) #[(.ref a1), (.int p1), (.int p2), (.int p3)] Z h0 (Qrm_t1 Z a1 p1 p2 p3 h0 n0) := by
  refine own_body own_pn1 ?_
  intro p e s m below meth c T0 X0 hx hby hml hown hnm hret hlk hZ e0
  have N0 := Fr.nil n0
  refine own_st (fun t k => castTop (own_ef_rm_t1 m a1 p1 p2 p3) k) ?_
  show own_Go p.tables e below (T0.setTop (mkF m 0 #[.val (.ref a1), .val (.int p1), .val (.int p2), .val (.int p3)] [])) _
  refine own_aloadN X0 hx hby own_d1_0 (pc' := 1) rfl rfl rfl ?_
  refine own_callVU X0 hx hZ (rm_or l Z a0 hw [] a1 (1 : Int32) h0 n0 F_o) hown (hw _ (List.mem_of_getElem? (i := 9) rfl)) (hw _ (List.mem_of_getElem? (i := 10) rfl)) (hw _ (List.mem_of_getElem? (i := 11) rfl)) (hw _ (List.mem_of_getElem? (i := 13) rfl)) (hw _ (List.mem_of_getElem? (i := 12) rfl)) (hw _ (List.mem_of_getElem? (i := 15) rfl)) (hw _ (List.mem_of_getElem? (i := 14) rfl)) (by decide) E_o (W := 0) (by decide) (by decide) (by rw [hml]; rfl) (argsL := []) (rest := []) rfl (lenOf own_pd0 rfl) rfl (Nat.le_of_eq rfl) (hb hby own_d1_1) e0 (by decide) (by decide) ?_
  intro v3 T3 L3 X3 hQ3
  obtain ⟨hv3, N3q, e3⟩ := hQ3
  subst hv3
  have N3 := Fr.app N0 N3q
  show own_Go p.tables e below (T3.setTop (mkF m 4 #[.val (.ref a1), .val (.int p1), .val (.int p2), .val (.int p3)] [(.int (1 : Int32))])) _
  refine own_tsw X3 hx hby own_d1_4 (pc' := 66) (o := 62) (by decide) (by decide) (by decide) ?_
  refine own_iloadN X3 hx hby own_d1_66 (pc' := 67) rfl rfl ?_
  refine own_goto X3 hx hby own_d1_67 (pc' := 91) (by decide) ?_
  exact own_retZ (t := .boolean) X3 hx hret (by simp) (hb hby own_d1_91) hlk (by decide) (by decide) ⟨congrArg (fun z => some (Value.int z)) (by simp [own_ti]), N3, e3⟩
theorem own_d1_70 : decode prog_38_method_4_code 70 = .ok (.iload_n 3, 1) := by decide +kernel
theorem own_d1_71 : decode prog_38_method_4_code 71 = .ok (.goto 20, 3) := by decide +kernel
theorem own_ef_rm_t2 (m : MethodId) (a1 : Addr) (p1 : Int32) (p2 : Int32) (p3 : Int32) : entryFrame m #[(.ref a1), (.int p1), (.int p2), (.int p3)] 4 = mkF m 0 #[.val (.ref a1), .val (.int p1), .val (.int p2), .val (.int p3)] [] := by first | (simp [entryFrame, mkF, argsToLocals, Value.category]; done) | rfl
def Qrm_t2 (Z : State) (a1 : Addr) (p1 : Int32) (p2 : Int32) (p3 : Int32) (h0 : Heap) (n0 : Nat) (v : Option Value) (h : Heap) (L : List Loc) : Prop := v = some (.int (own_ti (2 : Int32) p1 p2 p3)) ∧ Fr n0 L ∧ h = h0
set_option maxRecDepth 65536 in
set_option maxHeartbeats 40000000 in
theorem rm_t2 (l : Launch) (Z : State) (a0 : Array Value) (hw : ∀ d ∈ tables_1, d.before a0 Z = true) (ws : List Jvm.Cond) (a1 : Addr) (p1 : Int32) (p2 : Int32) (p3 : Int32) (h0 : Heap) (n0 : Nat) (F_o : Fld Z h0 a1 "java/lang/Enum" "ordinal" "I" (.int (2 : Int32))) (E_o : Exa Z h0 a1 "com/example/services_on_tap/servicesontap/UserScope") :
    own_Met l (⟨"com/example/services_on_tap/servicesontap/UserScope", "takesIn", "(ZZZ)Z"⟩ : MethodName) prog_38_method_4_code 4 (some .boolean) ws ({ frames := 1, cells := 0, slots := 0, locals := 12 } : Room) #[(.ref a1), (.int p1), (.int p2), (.int p3)] Z h0 (Qrm_t2 Z a1 p1 p2 p3 h0 n0) := by
  refine own_body own_pn1 ?_
  intro p e s m below meth c T0 X0 hx hby hml hown hnm hret hlk hZ e0
  have N0 := Fr.nil n0
  refine own_st (fun t k => castTop (own_ef_rm_t2 m a1 p1 p2 p3) k) ?_
  show own_Go p.tables e below (T0.setTop (mkF m 0 #[.val (.ref a1), .val (.int p1), .val (.int p2), .val (.int p3)] [])) _
  refine own_aloadN X0 hx hby own_d1_0 (pc' := 1) rfl rfl rfl ?_
  refine own_callVU X0 hx hZ (rm_or l Z a0 hw [] a1 (2 : Int32) h0 n0 F_o) hown (hw _ (List.mem_of_getElem? (i := 9) rfl)) (hw _ (List.mem_of_getElem? (i := 10) rfl)) (hw _ (List.mem_of_getElem? (i := 11) rfl)) (hw _ (List.mem_of_getElem? (i := 13) rfl)) (hw _ (List.mem_of_getElem? (i := 12) rfl)) (hw _ (List.mem_of_getElem? (i := 15) rfl)) (hw _ (List.mem_of_getElem? (i := 14) rfl)) (by decide) E_o (W := 0) (by decide) (by decide) (by rw [hml]; rfl) (argsL := []) (rest := []) rfl (lenOf own_pd0 rfl) rfl (Nat.le_of_eq rfl) (hb hby own_d1_1) e0 (by decide) (by decide) ?_
  intro v4 T4 L4 X4 hQ4
  obtain ⟨hv4, N4q, e4⟩ := hQ4
  subst hv4
  have N4 := Fr.app N0 N4q
  show own_Go p.tables e below (T4.setTop (mkF m 4 #[.val (.ref a1), .val (.int p1), .val (.int p2), .val (.int p3)] [(.int (2 : Int32))])) _
  refine own_tsw X4 hx hby own_d1_4 (pc' := 70) (o := 66) (by decide) (by decide) (by decide) ?_
  refine own_iloadN X4 hx hby own_d1_70 (pc' := 71) rfl rfl ?_
  refine own_goto X4 hx hby own_d1_71 (pc' := 91) (by decide) ?_
  exact own_retZ (t := .boolean) X4 hx hret (by simp) (hb hby own_d1_91) hlk (by decide) (by decide) ⟨congrArg (fun z => some (Value.int z)) (by simp [own_ti]), N4, e4⟩
theorem own_d1_74 : decode prog_38_method_4_code 74 = .ok (.iload_n 2, 1) := by decide +kernel
theorem own_d1_75 : decode prog_38_method_4_code 75 = .ok (.goto 16, 3) := by decide +kernel
theorem own_ef_rm_t3 (m : MethodId) (a1 : Addr) (p1 : Int32) (p2 : Int32) (p3 : Int32) : entryFrame m #[(.ref a1), (.int p1), (.int p2), (.int p3)] 4 = mkF m 0 #[.val (.ref a1), .val (.int p1), .val (.int p2), .val (.int p3)] [] := by first | (simp [entryFrame, mkF, argsToLocals, Value.category]; done) | rfl
def Qrm_t3 (Z : State) (a1 : Addr) (p1 : Int32) (p2 : Int32) (p3 : Int32) (h0 : Heap) (n0 : Nat) (v : Option Value) (h : Heap) (L : List Loc) : Prop := v = some (.int (own_ti (3 : Int32) p1 p2 p3)) ∧ Fr n0 L ∧ h = h0
set_option maxRecDepth 65536 in
set_option maxHeartbeats 40000000 in
theorem rm_t3 (l : Launch) (Z : State) (a0 : Array Value) (hw : ∀ d ∈ tables_1, d.before a0 Z = true) (ws : List Jvm.Cond) (a1 : Addr) (p1 : Int32) (p2 : Int32) (p3 : Int32) (h0 : Heap) (n0 : Nat) (F_o : Fld Z h0 a1 "java/lang/Enum" "ordinal" "I" (.int (3 : Int32))) (E_o : Exa Z h0 a1 "com/example/services_on_tap/servicesontap/UserScope") :
    own_Met l (⟨"com/example/services_on_tap/servicesontap/UserScope", "takesIn", "(ZZZ)Z"⟩ : MethodName) prog_38_method_4_code 4 (some .boolean) ws ({ frames := 1, cells := 0, slots := 0, locals := 12 } : Room) #[(.ref a1), (.int p1), (.int p2), (.int p3)] Z h0 (Qrm_t3 Z a1 p1 p2 p3 h0 n0) := by
  refine own_body own_pn1 ?_
  intro p e s m below meth c T0 X0 hx hby hml hown hnm hret hlk hZ e0
  have N0 := Fr.nil n0
  refine own_st (fun t k => castTop (own_ef_rm_t3 m a1 p1 p2 p3) k) ?_
  show own_Go p.tables e below (T0.setTop (mkF m 0 #[.val (.ref a1), .val (.int p1), .val (.int p2), .val (.int p3)] [])) _
  refine own_aloadN X0 hx hby own_d1_0 (pc' := 1) rfl rfl rfl ?_
  refine own_callVU X0 hx hZ (rm_or l Z a0 hw [] a1 (3 : Int32) h0 n0 F_o) hown (hw _ (List.mem_of_getElem? (i := 9) rfl)) (hw _ (List.mem_of_getElem? (i := 10) rfl)) (hw _ (List.mem_of_getElem? (i := 11) rfl)) (hw _ (List.mem_of_getElem? (i := 13) rfl)) (hw _ (List.mem_of_getElem? (i := 12) rfl)) (hw _ (List.mem_of_getElem? (i := 15) rfl)) (hw _ (List.mem_of_getElem? (i := 14) rfl)) (by decide) E_o (W := 0) (by decide) (by decide) (by rw [hml]; rfl) (argsL := []) (rest := []) rfl (lenOf own_pd0 rfl) rfl (Nat.le_of_eq rfl) (hb hby own_d1_1) e0 (by decide) (by decide) ?_
  intro v5 T5 L5 X5 hQ5
  obtain ⟨hv5, N5q, e5⟩ := hQ5
  subst hv5
  have N5 := Fr.app N0 N5q
  show own_Go p.tables e below (T5.setTop (mkF m 4 #[.val (.ref a1), .val (.int p1), .val (.int p2), .val (.int p3)] [(.int (3 : Int32))])) _
  refine own_tsw X5 hx hby own_d1_4 (pc' := 74) (o := 70) (by decide) (by decide) (by decide) ?_
  refine own_iloadN X5 hx hby own_d1_74 (pc' := 75) rfl rfl ?_
  refine own_goto X5 hx hby own_d1_75 (pc' := 91) (by decide) ?_
  exact own_retZ (t := .boolean) X5 hx hret (by simp) (hb hby own_d1_91) hlk (by decide) (by decide) ⟨congrArg (fun z => some (Value.int z)) (by simp [own_ti]), N5, e5⟩
theorem own_d1_78 : decode prog_38_method_4_code 78 = .ok (.iload_n 2, 1) := by decide +kernel
theorem own_d1_79 : decode prog_38_method_4_code 79 = .ok (.ifCond .eq 11, 3) := by decide +kernel
theorem own_d1_82 : decode prog_38_method_4_code 82 = .ok (.iload_n 3, 1) := by decide +kernel
theorem own_d1_83 : decode prog_38_method_4_code 83 = .ok (.ifCond .ne 7, 3) := by decide +kernel
theorem own_d1_86 : decode prog_38_method_4_code 86 = .ok (.iconst 1, 1) := by decide +kernel
theorem own_d1_87 : decode prog_38_method_4_code 87 = .ok (.goto 4, 3) := by decide +kernel
theorem own_d1_90 : decode prog_38_method_4_code 90 = .ok (.iconst 0, 1) := by decide +kernel
theorem own_ef_rm_t4 (m : MethodId) (a1 : Addr) (p1 : Int32) (p2 : Int32) (p3 : Int32) : entryFrame m #[(.ref a1), (.int p1), (.int p2), (.int p3)] 4 = mkF m 0 #[.val (.ref a1), .val (.int p1), .val (.int p2), .val (.int p3)] [] := by first | (simp [entryFrame, mkF, argsToLocals, Value.category]; done) | rfl
def Qrm_t4 (Z : State) (a1 : Addr) (p1 : Int32) (p2 : Int32) (p3 : Int32) (h0 : Heap) (n0 : Nat) (v : Option Value) (h : Heap) (L : List Loc) : Prop := v = some (.int (own_ti (4 : Int32) p1 p2 p3)) ∧ Fr n0 L ∧ h = h0
set_option maxRecDepth 65536 in
set_option maxHeartbeats 40000000 in
theorem rm_t4 (l : Launch) (Z : State) (a0 : Array Value) (hw : ∀ d ∈ tables_1, d.before a0 Z = true) (ws : List Jvm.Cond) (a1 : Addr) (p1 : Int32) (p2 : Int32) (p3 : Int32) (h0 : Heap) (n0 : Nat) (F_o : Fld Z h0 a1 "java/lang/Enum" "ordinal" "I" (.int (4 : Int32))) (E_o : Exa Z h0 a1 "com/example/services_on_tap/servicesontap/UserScope") :
    own_Met l (⟨"com/example/services_on_tap/servicesontap/UserScope", "takesIn", "(ZZZ)Z"⟩ : MethodName) prog_38_method_4_code 4 (some .boolean) ws ({ frames := 1, cells := 0, slots := 0, locals := 12 } : Room) #[(.ref a1), (.int p1), (.int p2), (.int p3)] Z h0 (Qrm_t4 Z a1 p1 p2 p3 h0 n0) := by
  refine own_body own_pn1 ?_
  intro p e s m below meth c T0 X0 hx hby hml hown hnm hret hlk hZ e0
  have N0 := Fr.nil n0
  refine own_st (fun t k => castTop (own_ef_rm_t4 m a1 p1 p2 p3) k) ?_
  show own_Go p.tables e below (T0.setTop (mkF m 0 #[.val (.ref a1), .val (.int p1), .val (.int p2), .val (.int p3)] [])) _
  refine own_aloadN X0 hx hby own_d1_0 (pc' := 1) rfl rfl rfl ?_
  refine own_callVU X0 hx hZ (rm_or l Z a0 hw [] a1 (4 : Int32) h0 n0 F_o) hown (hw _ (List.mem_of_getElem? (i := 9) rfl)) (hw _ (List.mem_of_getElem? (i := 10) rfl)) (hw _ (List.mem_of_getElem? (i := 11) rfl)) (hw _ (List.mem_of_getElem? (i := 13) rfl)) (hw _ (List.mem_of_getElem? (i := 12) rfl)) (hw _ (List.mem_of_getElem? (i := 15) rfl)) (hw _ (List.mem_of_getElem? (i := 14) rfl)) (by decide) E_o (W := 0) (by decide) (by decide) (by rw [hml]; rfl) (argsL := []) (rest := []) rfl (lenOf own_pd0 rfl) rfl (Nat.le_of_eq rfl) (hb hby own_d1_1) e0 (by decide) (by decide) ?_
  intro v6 T6 L6 X6 hQ6
  obtain ⟨hv6, N6q, e6⟩ := hQ6
  subst hv6
  have N6 := Fr.app N0 N6q
  show own_Go p.tables e below (T6.setTop (mkF m 4 #[.val (.ref a1), .val (.int p1), .val (.int p2), .val (.int p3)] [(.int (4 : Int32))])) _
  refine own_tsw X6 hx hby own_d1_4 (pc' := 78) (o := 74) (by decide) (by decide) (by decide) ?_
  refine own_iloadN X6 hx hby own_d1_78 (pc' := 79) rfl rfl ?_
  by_cases hc79 : p2 = (0 : Int32)
  · skip
    refine own_ifYes X6 hx hby own_d1_79 (pc' := 90) (by decide) (teq hc79).1 ?_
    refine own_iconst X6 hx hby own_d1_90 (pc' := 91) rfl (z := (0 : Int32)) (by decide) ?_
    exact own_retZ (t := .boolean) X6 hx hret (by simp) (hb hby own_d1_91) hlk (by decide) (by decide) ⟨congrArg (fun z => some (Value.int z)) (own_nar0.trans (by simp [own_ti, hc79])), N6, e6⟩
  · skip
    refine own_ifNo X6 hx hby own_d1_79 (pc' := 82) rfl (feq hc79).1 ?_
    refine own_iloadN X6 hx hby own_d1_82 (pc' := 83) rfl rfl ?_
    by_cases hc83 : p3 = (0 : Int32)
    · skip
      refine own_ifNo X6 hx hby own_d1_83 (pc' := 86) rfl (teq hc83).2 ?_
      refine own_iconst X6 hx hby own_d1_86 (pc' := 87) rfl (z := (1 : Int32)) (by decide) ?_
      refine own_goto X6 hx hby own_d1_87 (pc' := 91) (by decide) ?_
      exact own_retZ (t := .boolean) X6 hx hret (by simp) (hb hby own_d1_91) hlk (by decide) (by decide) ⟨congrArg (fun z => some (Value.int z)) (own_nar1.trans (by simp [own_ti, hc79, hc83])), N6, e6⟩
    · skip
      refine own_ifYes X6 hx hby own_d1_83 (pc' := 90) (by decide) (feq hc83).2 ?_
      refine own_iconst X6 hx hby own_d1_90 (pc' := 91) rfl (z := (0 : Int32)) (by decide) ?_
      exact own_retZ (t := .boolean) X6 hx hret (by simp) (hb hby own_d1_91) hlk (by decide) (by decide) ⟨congrArg (fun z => some (Value.int z)) (own_nar0.trans (by simp [own_ti, hc79, hc83])), N6, e6⟩
theorem own_pd1 : parseMethodDescriptor "(ZZZ)Z" = some ⟨[.boolean, .boolean, .boolean], some .boolean⟩ := by decide +kernel
theorem own_ef_rm0 (m : MethodId) (p1 : Int32) (p2 : Int32) : entryFrame m #[(.int p1), (.int p2)] maxLocals = mkF m 0 #[.val (.int p1), .val (.int p2), .unset, .unset, .unset, .unset, .unset, .unset, .unset, .unset] [] := by first | (simp [entryFrame, mkF, argsToLocals, Value.category, maxLocals]; done) | rfl
def Qrm0 (Z : State) (p1 : Int32) (p2 : Int32) (r0 : Addr) (r1 : Addr) (r2 : Addr) (r3 : Addr) (r4 : Addr) (h0 : Heap) (n0 : Nat) (v : Option Value) (h : Heap) (L : List Loc) : Prop := v = some (.int (1 : Int32)) ∧ Fr n0 L
set_option maxRecDepth 65536 in
set_option maxHeartbeats 40000000 in
theorem rm0 (l : Launch) (Z : State) (a0 : Array Value) (hw : ∀ d ∈ tables_1, d.before a0 Z = true) (ws : List Jvm.Cond) (p1 : Int32) (p2 : Int32) (r0 : Addr) (r1 : Addr) (r2 : Addr) (r3 : Addr) (r4 : Addr) (h0 : Heap) (n0 : Nat) (S0 : Sta Z h0 "com/example/services_on_tap/servicesontap/UserScope" "ALL" "Lcom/example/services_on_tap/servicesontap/UserScope;" (.ref r0)) (E0 : Exa Z h0 r0 "com/example/services_on_tap/servicesontap/UserScope") (F0 : Fld Z h0 r0 "java/lang/Enum" "ordinal" "I" (.int (0 : Int32))) (S1 : Sta Z h0 "com/example/services_on_tap/servicesontap/UserScope" "SYSTEM" "Lcom/example/services_on_tap/servicesontap/UserScope;" (.ref r1)) (E1 : Exa Z h0 r1 "com/example/services_on_tap/servicesontap/UserScope") (F1 : Fld Z h0 r1 "java/lang/Enum" "ordinal" "I" (.int (1 : Int32))) (S2 : Sta Z h0 "com/example/services_on_tap/servicesontap/UserScope" "FOREGROUND" "Lcom/example/services_on_tap/servicesontap/UserScope;" (.ref r2)) (E2 : Exa Z h0 r2 "com/example/services_on_tap/servicesontap/UserScope") (F2 : Fld Z h0 r2 "java/lang/Enum" "ordinal" "I" (.int (2 : Int32))) (S3 : Sta Z h0 "com/example/services_on_tap/servicesontap/UserScope" "VISIBLE" "Lcom/example/services_on_tap/servicesontap/UserScope;" (.ref r3)) (E3 : Exa Z h0 r3 "com/example/services_on_tap/servicesontap/UserScope") (F3 : Fld Z h0 r3 "java/lang/Enum" "ordinal" "I" (.int (3 : Int32))) (S4 : Sta Z h0 "com/example/services_on_tap/servicesontap/UserScope" "BACKGROUND_VISIBLE" "Lcom/example/services_on_tap/servicesontap/UserScope;" (.ref r4)) (E4 : Exa Z h0 r4 "com/example/services_on_tap/servicesontap/UserScope") (F4 : Fld Z h0 r4 "java/lang/Enum" "ordinal" "I" (.int (4 : Int32))) :
    own_Met l x code maxLocals ret ws room_1 #[(.int p1), (.int p2)] Z h0 (Qrm0 Z p1 p2 r0 r1 r2 r3 r4 h0 n0) := by
  refine own_body own_pn0 ?_
  intro p e s m below meth c T0 X0 hx hby hml hown hnm hret hlk hZ e0
  have N0 := Fr.nil n0
  refine own_st (fun t k => castTop (own_ef_rm0 m p1 p2) k) ?_
  show own_Go p.tables e below (T0.setTop (mkF m 0 #[.val (.int p1), .val (.int p2), .unset, .unset, .unset, .unset, .unset, .unset, .unset, .unset] [])) _
  refine own_iloadN X0 hx hby at_0 (pc' := 1) rfl rfl ?_
  refine own_ldc X0 hx hby at_1 (pc' := 3) rfl hZ hown (hw _ (List.mem_of_getElem? (i := 0) rfl)) ?_
  refine own_iand X0 hx hby at_3 (pc' := 4) rfl rfl ?_
  refine own_iconst X0 hx hby at_4 (pc' := 5) rfl (z := (5 : Int32)) (by decide) ?_
  refine own_irem X0 hx hby at_5 (pc' := 6) rfl (by decide) rfl ?_
  refine own_istoreN X0 hx hby at_6 (pc' := 7) rfl (Ls' := #[.val (.int p1), .val (.int p2), .val (.int ((p1 &&& (2147483647 : Int32)) - ((p1 &&& (2147483647 : Int32)) / (5 : Int32)) * (5 : Int32))), .unset, .unset, .unset, .unset, .unset, .unset, .unset]) rfl ?_
  refine own_iloadN X0 hx hby at_7 (pc' := 8) rfl rfl ?_
  by_cases hc8 : ((p1 &&& (2147483647 : Int32)) - ((p1 &&& (2147483647 : Int32)) / (5 : Int32)) * (5 : Int32)) = (0 : Int32)
  · skip
    refine own_ifNo X0 hx hby at_8 (pc' := 11) rfl (teq hc8).2 ?_
    refine own_getS X0 hx hby at_11 (pc' := 14) rfl hZ hown (host := "") (Or.inl (hw _ (List.mem_of_getElem? (i := 1) rfl))) Via.refl e0 S0 ?_
    intro T7 X7 e7
    refine own_astoreN X7 hx hby at_14 (pc' := 15) rfl rfl (Ls' := #[.val (.int p1), .val (.int p2), .val (.int ((p1 &&& (2147483647 : Int32)) - ((p1 &&& (2147483647 : Int32)) / (5 : Int32)) * (5 : Int32))), .val (.ref r0), .unset, .unset, .unset, .unset, .unset, .unset]) rfl ?_
    refine own_sipush X7 hx hby at_15 (pc' := 18) rfl (z := (220 : Int32)) (by decide) ?_
    refine own_istore X7 hx hby at_18 (pc' := 20) rfl (Ls' := #[.val (.int p1), .val (.int p2), .val (.int ((p1 &&& (2147483647 : Int32)) - ((p1 &&& (2147483647 : Int32)) / (5 : Int32)) * (5 : Int32))), .val (.ref r0), .val (.int (220 : Int32)), .unset, .unset, .unset, .unset, .unset]) rfl ?_
    refine own_goto X7 hx hby at_20 (pc' := 82) (by decide) ?_
    refine own_iloadN X7 hx hby at_82 (pc' := 83) rfl rfl ?_
    refine own_iconst X7 hx hby at_83 (pc' := 84) rfl (z := (4 : Int32)) (by decide) ?_
    refine own_iand X7 hx hby at_84 (pc' := 85) rfl rfl ?_
    by_cases hc85 : (p2 &&& (4 : Int32)) = (0 : Int32)
    · skip
      refine own_ifYes X7 hx hby at_85 (pc' := 92) (by decide) (teq hc85).1 ?_
      refine own_iconst X7 hx hby at_92 (pc' := 93) rfl (z := (0 : Int32)) (by decide) ?_
      refine own_istore X7 hx hby at_93 (pc' := 95) rfl (Ls' := #[.val (.int p1), .val (.int p2), .val (.int ((p1 &&& (2147483647 : Int32)) - ((p1 &&& (2147483647 : Int32)) / (5 : Int32)) * (5 : Int32))), .val (.ref r0), .val (.int (220 : Int32)), .val (.int (0 : Int32)), .unset, .unset, .unset, .unset]) rfl ?_
      refine own_iloadN X7 hx hby at_95 (pc' := 96) rfl rfl ?_
      refine own_iconst X7 hx hby at_96 (pc' := 97) rfl (z := (1 : Int32)) (by decide) ?_
      refine own_iand X7 hx hby at_97 (pc' := 98) rfl rfl ?_
      by_cases hc98 : (p2 &&& (1 : Int32)) = (0 : Int32)
      · skip
        refine own_ifYes X7 hx hby at_98 (pc' := 105) (by decide) (teq hc98).1 ?_
        refine own_iconst X7 hx hby at_105 (pc' := 106) rfl (z := (0 : Int32)) (by decide) ?_
        refine own_istore X7 hx hby at_106 (pc' := 108) rfl (Ls' := #[.val (.int p1), .val (.int p2), .val (.int ((p1 &&& (2147483647 : Int32)) - ((p1 &&& (2147483647 : Int32)) / (5 : Int32)) * (5 : Int32))), .val (.ref r0), .val (.int (220 : Int32)), .val (.int (0 : Int32)), .val (.int (0 : Int32)), .unset, .unset, .unset]) rfl ?_
        refine own_iloadN X7 hx hby at_108 (pc' := 109) rfl rfl ?_
        refine own_iconst X7 hx hby at_109 (pc' := 110) rfl (z := (2 : Int32)) (by decide) ?_
        refine own_iand X7 hx hby at_110 (pc' := 111) rfl rfl ?_
        by_cases hc111 : (p2 &&& (2 : Int32)) = (0 : Int32)
        · skip
          refine own_ifNo X7 hx hby at_111 (pc' := 114) rfl (teq hc111).2 ?_
          refine own_iload X7 hx hby at_114 (pc' := 116) rfl rfl ?_
          refine own_ifYes X7 hx hby at_116 (pc' := 123) (by decide) (by decide) ?_
          refine own_iconst X7 hx hby at_123 (pc' := 124) rfl (z := (0 : Int32)) (by decide) ?_
          refine own_istore X7 hx hby at_124 (pc' := 126) rfl (Ls' := #[.val (.int p1), .val (.int p2), .val (.int ((p1 &&& (2147483647 : Int32)) - ((p1 &&& (2147483647 : Int32)) / (5 : Int32)) * (5 : Int32))), .val (.ref r0), .val (.int (220 : Int32)), .val (.int (0 : Int32)), .val (.int (0 : Int32)), .val (.int (0 : Int32)), .unset, .unset]) rfl ?_
          refine own_iload X7 hx hby at_126 (pc' := 128) rfl rfl ?_
          refine own_ifYes X7 hx hby at_128 (pc' := 135) (by decide) (by decide) ?_
          refine own_iconst X7 hx hby at_135 (pc' := 136) rfl (z := (0 : Int32)) (by decide) ?_
          refine own_iload X7 hx hby at_136 (pc' := 138) rfl rfl ?_
          refine own_ifYes X7 hx hby at_138 (pc' := 145) (by decide) (by decide) ?_
          refine own_iconst X7 hx hby at_145 (pc' := 146) rfl (z := (0 : Int32)) (by decide) ?_
          refine own_iadd X7 hx hby at_146 (pc' := 147) rfl (z := (0 : Int32)) (by decide) ?_
          refine own_iload X7 hx hby at_147 (pc' := 149) rfl rfl ?_
          refine own_ifYes X7 hx hby at_149 (pc' := 156) (by decide) (by decide) ?_
          refine own_iconst X7 hx hby at_156 (pc' := 157) rfl (z := (0 : Int32)) (by decide) ?_
          refine own_iadd X7 hx hby at_157 (pc' := 158) rfl (z := (0 : Int32)) (by decide) ?_
          refine own_istore X7 hx hby at_158 (pc' := 160) rfl (Ls' := #[.val (.int p1), .val (.int p2), .val (.int ((p1 &&& (2147483647 : Int32)) - ((p1 &&& (2147483647 : Int32)) / (5 : Int32)) * (5 : Int32))), .val (.ref r0), .val (.int (220 : Int32)), .val (.int (0 : Int32)), .val (.int (0 : Int32)), .val (.int (0 : Int32)), .val (.int (0 : Int32)), .unset]) rfl ?_
          refine own_iload X7 hx hby at_160 (pc' := 162) rfl rfl ?_
          refine own_iload X7 hx hby at_162 (pc' := 164) rfl rfl ?_
          refine own_ishr X7 hx hby at_164 (pc' := 165) rfl (z := (220 : Int32)) (by decide) ?_
          refine own_iconst X7 hx hby at_165 (pc' := 166) rfl (z := (1 : Int32)) (by decide) ?_
          refine own_iand X7 hx hby at_166 (pc' := 167) rfl (z := (0 : Int32)) (by decide) ?_
          refine own_ifYes X7 hx hby at_167 (pc' := 174) (by decide) (by decide) ?_
          refine own_iconst X7 hx hby at_174 (pc' := 175) rfl (z := (0 : Int32)) (by decide) ?_
          refine own_istore X7 hx hby at_175 (pc' := 177) rfl (Ls' := #[.val (.int p1), .val (.int p2), .val (.int ((p1 &&& (2147483647 : Int32)) - ((p1 &&& (2147483647 : Int32)) / (5 : Int32)) * (5 : Int32))), .val (.ref r0), .val (.int (220 : Int32)), .val (.int (0 : Int32)), .val (.int (0 : Int32)), .val (.int (0 : Int32)), .val (.int (0 : Int32)), .val (.int (0 : Int32))]) rfl ?_
          refine own_aloadN X7 hx hby at_177 (pc' := 178) rfl rfl rfl ?_
          refine own_iload X7 hx hby at_178 (pc' := 180) rfl rfl ?_
          refine own_iload X7 hx hby at_180 (pc' := 182) rfl rfl ?_
          refine own_iload X7 hx hby at_182 (pc' := 184) rfl rfl ?_
          refine own_callV X7 hx hZ (rm_t0 l Z a0 hw [] r0 (0 : Int32) (0 : Int32) (0 : Int32) h0 n0 F0 E0) hown (hw _ (List.mem_of_getElem? (i := 4) rfl)) (hw _ (List.mem_of_getElem? (i := 5) rfl)) (hw _ (List.mem_of_getElem? (i := 7) rfl)) (hw _ (List.mem_of_getElem? (i := 6) rfl)) (hw _ (List.mem_of_getElem? (i := 8) rfl)) (hw _ (List.mem_of_getElem? (i := 2) rfl)) (by decide) E0 (W := 0) (by decide) (by decide) (by rw [hml]; rfl) (argsL := [(.int (0 : Int32)), (.int (0 : Int32)), (.int (0 : Int32))]) (rest := []) rfl (lenOf own_pd1 rfl) rfl (Nat.le_of_eq rfl) (hb hby at_184) e7 (by decide) (by decide) ?_
          intro v8 T8 L8 X8 hQ8
          obtain ⟨hv8, N8q, e8⟩ := hQ8
          rw [show own_ti (0 : Int32) (0 : Int32) (0 : Int32) (0 : Int32) = (0 : Int32) from by decide] at hv8
          subst hv8
          have N8 := Fr.app N0 N8q
          show own_Go p.tables e below (T8.setTop (mkF m 187 #[.val (.int p1), .val (.int p2), .val (.int ((p1 &&& (2147483647 : Int32)) - ((p1 &&& (2147483647 : Int32)) / (5 : Int32)) * (5 : Int32))), .val (.ref r0), .val (.int (220 : Int32)), .val (.int (0 : Int32)), .val (.int (0 : Int32)), .val (.int (0 : Int32)), .val (.int (0 : Int32)), .val (.int (0 : Int32))] [(.int (0 : Int32))])) _
          refine own_iload X8 hx hby at_187 (pc' := 189) rfl rfl ?_
          refine own_icmpNo X8 hx hby at_189 (pc' := 192) rfl (by decide) ?_
          refine own_iconst X8 hx hby at_192 (pc' := 193) rfl (z := (1 : Int32)) (by decide) ?_
          refine own_goto X8 hx hby at_193 (pc' := 197) (by decide) ?_
          exact own_retZ (t := .boolean) X8 hx hret (by simp) (hb hby at_197) hlk (by decide) (by decide) ⟨congrArg (fun z => some (Value.int z)) (own_nar1), N8⟩
        · skip
          refine own_ifYes X7 hx hby at_111 (pc' := 119) (by decide) (feq hc111).2 ?_
          refine own_iconst X7 hx hby at_119 (pc' := 120) rfl (z := (1 : Int32)) (by decide) ?_
          refine own_goto X7 hx hby at_120 (pc' := 124) (by decide) ?_
          refine own_istore X7 hx hby at_124 (pc' := 126) rfl (Ls' := #[.val (.int p1), .val (.int p2), .val (.int ((p1 &&& (2147483647 : Int32)) - ((p1 &&& (2147483647 : Int32)) / (5 : Int32)) * (5 : Int32))), .val (.ref r0), .val (.int (220 : Int32)), .val (.int (0 : Int32)), .val (.int (0 : Int32)), .val (.int (1 : Int32)), .unset, .unset]) rfl ?_
          refine own_iload X7 hx hby at_126 (pc' := 128) rfl rfl ?_
          refine own_ifYes X7 hx hby at_128 (pc' := 135) (by decide) (by decide) ?_
          refine own_iconst X7 hx hby at_135 (pc' := 136) rfl (z := (0 : Int32)) (by decide) ?_
          refine own_iload X7 hx hby at_136 (pc' := 138) rfl rfl ?_
          refine own_ifNo X7 hx hby at_138 (pc' := 141) rfl (by decide) ?_
          refine own_iconst X7 hx hby at_141 (pc' := 142) rfl (z := (2 : Int32)) (by decide) ?_
          refine own_goto X7 hx hby at_142 (pc' := 146) (by decide) ?_
          refine own_iadd X7 hx hby at_146 (pc' := 147) rfl (z := (2 : Int32)) (by decide) ?_
          refine own_iload X7 hx hby at_147 (pc' := 149) rfl rfl ?_
          refine own_ifYes X7 hx hby at_149 (pc' := 156) (by decide) (by decide) ?_
          refine own_iconst X7 hx hby at_156 (pc' := 157) rfl (z := (0 : Int32)) (by decide) ?_
          refine own_iadd X7 hx hby at_157 (pc' := 158) rfl (z := (2 : Int32)) (by decide) ?_
          refine own_istore X7 hx hby at_158 (pc' := 160) rfl (Ls' := #[.val (.int p1), .val (.int p2), .val (.int ((p1 &&& (2147483647 : Int32)) - ((p1 &&& (2147483647 : Int32)) / (5 : Int32)) * (5 : Int32))), .val (.ref r0), .val (.int (220 : Int32)), .val (.int (0 : Int32)), .val (.int (0 : Int32)), .val (.int (1 : Int32)), .val (.int (2 : Int32)), .unset]) rfl ?_
          refine own_iload X7 hx hby at_160 (pc' := 162) rfl rfl ?_
          refine own_iload X7 hx hby at_162 (pc' := 164) rfl rfl ?_
          refine own_ishr X7 hx hby at_164 (pc' := 165) rfl (z := (55 : Int32)) (by decide) ?_
          refine own_iconst X7 hx hby at_165 (pc' := 166) rfl (z := (1 : Int32)) (by decide) ?_
          refine own_iand X7 hx hby at_166 (pc' := 167) rfl (z := (1 : Int32)) (by decide) ?_
          refine own_ifNo X7 hx hby at_167 (pc' := 170) rfl (by decide) ?_
          refine own_iconst X7 hx hby at_170 (pc' := 171) rfl (z := (1 : Int32)) (by decide) ?_
          refine own_goto X7 hx hby at_171 (pc' := 175) (by decide) ?_
          refine own_istore X7 hx hby at_175 (pc' := 177) rfl (Ls' := #[.val (.int p1), .val (.int p2), .val (.int ((p1 &&& (2147483647 : Int32)) - ((p1 &&& (2147483647 : Int32)) / (5 : Int32)) * (5 : Int32))), .val (.ref r0), .val (.int (220 : Int32)), .val (.int (0 : Int32)), .val (.int (0 : Int32)), .val (.int (1 : Int32)), .val (.int (2 : Int32)), .val (.int (1 : Int32))]) rfl ?_
          refine own_aloadN X7 hx hby at_177 (pc' := 178) rfl rfl rfl ?_
          refine own_iload X7 hx hby at_178 (pc' := 180) rfl rfl ?_
          refine own_iload X7 hx hby at_180 (pc' := 182) rfl rfl ?_
          refine own_iload X7 hx hby at_182 (pc' := 184) rfl rfl ?_
          refine own_callV X7 hx hZ (rm_t0 l Z a0 hw [] r0 (0 : Int32) (1 : Int32) (0 : Int32) h0 n0 F0 E0) hown (hw _ (List.mem_of_getElem? (i := 4) rfl)) (hw _ (List.mem_of_getElem? (i := 5) rfl)) (hw _ (List.mem_of_getElem? (i := 7) rfl)) (hw _ (List.mem_of_getElem? (i := 6) rfl)) (hw _ (List.mem_of_getElem? (i := 8) rfl)) (hw _ (List.mem_of_getElem? (i := 2) rfl)) (by decide) E0 (W := 0) (by decide) (by decide) (by rw [hml]; rfl) (argsL := [(.int (0 : Int32)), (.int (1 : Int32)), (.int (0 : Int32))]) (rest := []) rfl (lenOf own_pd1 rfl) rfl (Nat.le_of_eq rfl) (hb hby at_184) e7 (by decide) (by decide) ?_
          intro v9 T9 L9 X9 hQ9
          obtain ⟨hv9, N9q, e9⟩ := hQ9
          rw [show own_ti (0 : Int32) (0 : Int32) (1 : Int32) (0 : Int32) = (1 : Int32) from by decide] at hv9
          subst hv9
          have N9 := Fr.app N0 N9q
          show own_Go p.tables e below (T9.setTop (mkF m 187 #[.val (.int p1), .val (.int p2), .val (.int ((p1 &&& (2147483647 : Int32)) - ((p1 &&& (2147483647 : Int32)) / (5 : Int32)) * (5 : Int32))), .val (.ref r0), .val (.int (220 : Int32)), .val (.int (0 : Int32)), .val (.int (0 : Int32)), .val (.int (1 : Int32)), .val (.int (2 : Int32)), .val (.int (1 : Int32))] [(.int (1 : Int32))])) _
          refine own_iload X9 hx hby at_187 (pc' := 189) rfl rfl ?_
          refine own_icmpNo X9 hx hby at_189 (pc' := 192) rfl (by decide) ?_
          refine own_iconst X9 hx hby at_192 (pc' := 193) rfl (z := (1 : Int32)) (by decide) ?_
          refine own_goto X9 hx hby at_193 (pc' := 197) (by decide) ?_
          exact own_retZ (t := .boolean) X9 hx hret (by simp) (hb hby at_197) hlk (by decide) (by decide) ⟨congrArg (fun z => some (Value.int z)) (own_nar1), N9⟩
      · skip
        refine own_ifNo X7 hx hby at_98 (pc' := 101) rfl (feq hc98).1 ?_
        refine own_iconst X7 hx hby at_101 (pc' := 102) rfl (z := (1 : Int32)) (by decide) ?_
        refine own_goto X7 hx hby at_102 (pc' := 106) (by decide) ?_
        refine own_istore X7 hx hby at_106 (pc' := 108) rfl (Ls' := #[.val (.int p1), .val (.int p2), .val (.int ((p1 &&& (2147483647 : Int32)) - ((p1 &&& (2147483647 : Int32)) / (5 : Int32)) * (5 : Int32))), .val (.ref r0), .val (.int (220 : Int32)), .val (.int (0 : Int32)), .val (.int (1 : Int32)), .unset, .unset, .unset]) rfl ?_
        refine own_iloadN X7 hx hby at_108 (pc' := 109) rfl rfl ?_
        refine own_iconst X7 hx hby at_109 (pc' := 110) rfl (z := (2 : Int32)) (by decide) ?_
        refine own_iand X7 hx hby at_110 (pc' := 111) rfl rfl ?_
        by_cases hc111 : (p2 &&& (2 : Int32)) = (0 : Int32)
        · skip
          refine own_ifNo X7 hx hby at_111 (pc' := 114) rfl (teq hc111).2 ?_
          refine own_iload X7 hx hby at_114 (pc' := 116) rfl rfl ?_
          refine own_ifNo X7 hx hby at_116 (pc' := 119) rfl (by decide) ?_
          refine own_iconst X7 hx hby at_119 (pc' := 120) rfl (z := (1 : Int32)) (by decide) ?_
          refine own_goto X7 hx hby at_120 (pc' := 124) (by decide) ?_
          refine own_istore X7 hx hby at_124 (pc' := 126) rfl (Ls' := #[.val (.int p1), .val (.int p2), .val (.int ((p1 &&& (2147483647 : Int32)) - ((p1 &&& (2147483647 : Int32)) / (5 : Int32)) * (5 : Int32))), .val (.ref r0), .val (.int (220 : Int32)), .val (.int (0 : Int32)), .val (.int (1 : Int32)), .val (.int (1 : Int32)), .unset, .unset]) rfl ?_
          refine own_iload X7 hx hby at_126 (pc' := 128) rfl rfl ?_
          refine own_ifYes X7 hx hby at_128 (pc' := 135) (by decide) (by decide) ?_
          refine own_iconst X7 hx hby at_135 (pc' := 136) rfl (z := (0 : Int32)) (by decide) ?_
          refine own_iload X7 hx hby at_136 (pc' := 138) rfl rfl ?_
          refine own_ifNo X7 hx hby at_138 (pc' := 141) rfl (by decide) ?_
          refine own_iconst X7 hx hby at_141 (pc' := 142) rfl (z := (2 : Int32)) (by decide) ?_
          refine own_goto X7 hx hby at_142 (pc' := 146) (by decide) ?_
          refine own_iadd X7 hx hby at_146 (pc' := 147) rfl (z := (2 : Int32)) (by decide) ?_
          refine own_iload X7 hx hby at_147 (pc' := 149) rfl rfl ?_
          refine own_ifNo X7 hx hby at_149 (pc' := 152) rfl (by decide) ?_
          refine own_iconst X7 hx hby at_152 (pc' := 153) rfl (z := (1 : Int32)) (by decide) ?_
          refine own_goto X7 hx hby at_153 (pc' := 157) (by decide) ?_
          refine own_iadd X7 hx hby at_157 (pc' := 158) rfl (z := (3 : Int32)) (by decide) ?_
          refine own_istore X7 hx hby at_158 (pc' := 160) rfl (Ls' := #[.val (.int p1), .val (.int p2), .val (.int ((p1 &&& (2147483647 : Int32)) - ((p1 &&& (2147483647 : Int32)) / (5 : Int32)) * (5 : Int32))), .val (.ref r0), .val (.int (220 : Int32)), .val (.int (0 : Int32)), .val (.int (1 : Int32)), .val (.int (1 : Int32)), .val (.int (3 : Int32)), .unset]) rfl ?_
          refine own_iload X7 hx hby at_160 (pc' := 162) rfl rfl ?_
          refine own_iload X7 hx hby at_162 (pc' := 164) rfl rfl ?_
          refine own_ishr X7 hx hby at_164 (pc' := 165) rfl (z := (27 : Int32)) (by decide) ?_
          refine own_iconst X7 hx hby at_165 (pc' := 166) rfl (z := (1 : Int32)) (by decide) ?_
          refine own_iand X7 hx hby at_166 (pc' := 167) rfl (z := (1 : Int32)) (by decide) ?_
          refine own_ifNo X7 hx hby at_167 (pc' := 170) rfl (by decide) ?_
          refine own_iconst X7 hx hby at_170 (pc' := 171) rfl (z := (1 : Int32)) (by decide) ?_
          refine own_goto X7 hx hby at_171 (pc' := 175) (by decide) ?_
          refine own_istore X7 hx hby at_175 (pc' := 177) rfl (Ls' := #[.val (.int p1), .val (.int p2), .val (.int ((p1 &&& (2147483647 : Int32)) - ((p1 &&& (2147483647 : Int32)) / (5 : Int32)) * (5 : Int32))), .val (.ref r0), .val (.int (220 : Int32)), .val (.int (0 : Int32)), .val (.int (1 : Int32)), .val (.int (1 : Int32)), .val (.int (3 : Int32)), .val (.int (1 : Int32))]) rfl ?_
          refine own_aloadN X7 hx hby at_177 (pc' := 178) rfl rfl rfl ?_
          refine own_iload X7 hx hby at_178 (pc' := 180) rfl rfl ?_
          refine own_iload X7 hx hby at_180 (pc' := 182) rfl rfl ?_
          refine own_iload X7 hx hby at_182 (pc' := 184) rfl rfl ?_
          refine own_callV X7 hx hZ (rm_t0 l Z a0 hw [] r0 (0 : Int32) (1 : Int32) (1 : Int32) h0 n0 F0 E0) hown (hw _ (List.mem_of_getElem? (i := 4) rfl)) (hw _ (List.mem_of_getElem? (i := 5) rfl)) (hw _ (List.mem_of_getElem? (i := 7) rfl)) (hw _ (List.mem_of_getElem? (i := 6) rfl)) (hw _ (List.mem_of_getElem? (i := 8) rfl)) (hw _ (List.mem_of_getElem? (i := 2) rfl)) (by decide) E0 (W := 0) (by decide) (by decide) (by rw [hml]; rfl) (argsL := [(.int (0 : Int32)), (.int (1 : Int32)), (.int (1 : Int32))]) (rest := []) rfl (lenOf own_pd1 rfl) rfl (Nat.le_of_eq rfl) (hb hby at_184) e7 (by decide) (by decide) ?_
          intro v10 T10 L10 X10 hQ10
          obtain ⟨hv10, N10q, e10⟩ := hQ10
          rw [show own_ti (0 : Int32) (0 : Int32) (1 : Int32) (1 : Int32) = (1 : Int32) from by decide] at hv10
          subst hv10
          have N10 := Fr.app N0 N10q
          show own_Go p.tables e below (T10.setTop (mkF m 187 #[.val (.int p1), .val (.int p2), .val (.int ((p1 &&& (2147483647 : Int32)) - ((p1 &&& (2147483647 : Int32)) / (5 : Int32)) * (5 : Int32))), .val (.ref r0), .val (.int (220 : Int32)), .val (.int (0 : Int32)), .val (.int (1 : Int32)), .val (.int (1 : Int32)), .val (.int (3 : Int32)), .val (.int (1 : Int32))] [(.int (1 : Int32))])) _
          refine own_iload X10 hx hby at_187 (pc' := 189) rfl rfl ?_
          refine own_icmpNo X10 hx hby at_189 (pc' := 192) rfl (by decide) ?_
          refine own_iconst X10 hx hby at_192 (pc' := 193) rfl (z := (1 : Int32)) (by decide) ?_
          refine own_goto X10 hx hby at_193 (pc' := 197) (by decide) ?_
          exact own_retZ (t := .boolean) X10 hx hret (by simp) (hb hby at_197) hlk (by decide) (by decide) ⟨congrArg (fun z => some (Value.int z)) (own_nar1), N10⟩
        · skip
          refine own_ifYes X7 hx hby at_111 (pc' := 119) (by decide) (feq hc111).2 ?_
          refine own_iconst X7 hx hby at_119 (pc' := 120) rfl (z := (1 : Int32)) (by decide) ?_
          refine own_goto X7 hx hby at_120 (pc' := 124) (by decide) ?_
          refine own_istore X7 hx hby at_124 (pc' := 126) rfl (Ls' := #[.val (.int p1), .val (.int p2), .val (.int ((p1 &&& (2147483647 : Int32)) - ((p1 &&& (2147483647 : Int32)) / (5 : Int32)) * (5 : Int32))), .val (.ref r0), .val (.int (220 : Int32)), .val (.int (0 : Int32)), .val (.int (1 : Int32)), .val (.int (1 : Int32)), .unset, .unset]) rfl ?_
          refine own_iload X7 hx hby at_126 (pc' := 128) rfl rfl ?_
          refine own_ifYes X7 hx hby at_128 (pc' := 135) (by decide) (by decide) ?_
          refine own_iconst X7 hx hby at_135 (pc' := 136) rfl (z := (0 : Int32)) (by decide) ?_
          refine own_iload X7 hx hby at_136 (pc' := 138) rfl rfl ?_
          refine own_ifNo X7 hx hby at_138 (pc' := 141) rfl (by decide) ?_
          refine own_iconst X7 hx hby at_141 (pc' := 142) rfl (z := (2 : Int32)) (by decide) ?_
          refine own_goto X7 hx hby at_142 (pc' := 146) (by decide) ?_
          refine own_iadd X7 hx hby at_146 (pc' := 147) rfl (z := (2 : Int32)) (by decide) ?_
          refine own_iload X7 hx hby at_147 (pc' := 149) rfl rfl ?_
          refine own_ifNo X7 hx hby at_149 (pc' := 152) rfl (by decide) ?_
          refine own_iconst X7 hx hby at_152 (pc' := 153) rfl (z := (1 : Int32)) (by decide) ?_
          refine own_goto X7 hx hby at_153 (pc' := 157) (by decide) ?_
          refine own_iadd X7 hx hby at_157 (pc' := 158) rfl (z := (3 : Int32)) (by decide) ?_
          refine own_istore X7 hx hby at_158 (pc' := 160) rfl (Ls' := #[.val (.int p1), .val (.int p2), .val (.int ((p1 &&& (2147483647 : Int32)) - ((p1 &&& (2147483647 : Int32)) / (5 : Int32)) * (5 : Int32))), .val (.ref r0), .val (.int (220 : Int32)), .val (.int (0 : Int32)), .val (.int (1 : Int32)), .val (.int (1 : Int32)), .val (.int (3 : Int32)), .unset]) rfl ?_
          refine own_iload X7 hx hby at_160 (pc' := 162) rfl rfl ?_
          refine own_iload X7 hx hby at_162 (pc' := 164) rfl rfl ?_
          refine own_ishr X7 hx hby at_164 (pc' := 165) rfl (z := (27 : Int32)) (by decide) ?_
          refine own_iconst X7 hx hby at_165 (pc' := 166) rfl (z := (1 : Int32)) (by decide) ?_
          refine own_iand X7 hx hby at_166 (pc' := 167) rfl (z := (1 : Int32)) (by decide) ?_
          refine own_ifNo X7 hx hby at_167 (pc' := 170) rfl (by decide) ?_
          refine own_iconst X7 hx hby at_170 (pc' := 171) rfl (z := (1 : Int32)) (by decide) ?_
          refine own_goto X7 hx hby at_171 (pc' := 175) (by decide) ?_
          refine own_istore X7 hx hby at_175 (pc' := 177) rfl (Ls' := #[.val (.int p1), .val (.int p2), .val (.int ((p1 &&& (2147483647 : Int32)) - ((p1 &&& (2147483647 : Int32)) / (5 : Int32)) * (5 : Int32))), .val (.ref r0), .val (.int (220 : Int32)), .val (.int (0 : Int32)), .val (.int (1 : Int32)), .val (.int (1 : Int32)), .val (.int (3 : Int32)), .val (.int (1 : Int32))]) rfl ?_
          refine own_aloadN X7 hx hby at_177 (pc' := 178) rfl rfl rfl ?_
          refine own_iload X7 hx hby at_178 (pc' := 180) rfl rfl ?_
          refine own_iload X7 hx hby at_180 (pc' := 182) rfl rfl ?_
          refine own_iload X7 hx hby at_182 (pc' := 184) rfl rfl ?_
          refine own_callV X7 hx hZ (rm_t0 l Z a0 hw [] r0 (0 : Int32) (1 : Int32) (1 : Int32) h0 n0 F0 E0) hown (hw _ (List.mem_of_getElem? (i := 4) rfl)) (hw _ (List.mem_of_getElem? (i := 5) rfl)) (hw _ (List.mem_of_getElem? (i := 7) rfl)) (hw _ (List.mem_of_getElem? (i := 6) rfl)) (hw _ (List.mem_of_getElem? (i := 8) rfl)) (hw _ (List.mem_of_getElem? (i := 2) rfl)) (by decide) E0 (W := 0) (by decide) (by decide) (by rw [hml]; rfl) (argsL := [(.int (0 : Int32)), (.int (1 : Int32)), (.int (1 : Int32))]) (rest := []) rfl (lenOf own_pd1 rfl) rfl (Nat.le_of_eq rfl) (hb hby at_184) e7 (by decide) (by decide) ?_
          intro v11 T11 L11 X11 hQ11
          obtain ⟨hv11, N11q, e11⟩ := hQ11
          rw [show own_ti (0 : Int32) (0 : Int32) (1 : Int32) (1 : Int32) = (1 : Int32) from by decide] at hv11
          subst hv11
          have N11 := Fr.app N0 N11q
          show own_Go p.tables e below (T11.setTop (mkF m 187 #[.val (.int p1), .val (.int p2), .val (.int ((p1 &&& (2147483647 : Int32)) - ((p1 &&& (2147483647 : Int32)) / (5 : Int32)) * (5 : Int32))), .val (.ref r0), .val (.int (220 : Int32)), .val (.int (0 : Int32)), .val (.int (1 : Int32)), .val (.int (1 : Int32)), .val (.int (3 : Int32)), .val (.int (1 : Int32))] [(.int (1 : Int32))])) _
          refine own_iload X11 hx hby at_187 (pc' := 189) rfl rfl ?_
          refine own_icmpNo X11 hx hby at_189 (pc' := 192) rfl (by decide) ?_
          refine own_iconst X11 hx hby at_192 (pc' := 193) rfl (z := (1 : Int32)) (by decide) ?_
          refine own_goto X11 hx hby at_193 (pc' := 197) (by decide) ?_
          exact own_retZ (t := .boolean) X11 hx hret (by simp) (hb hby at_197) hlk (by decide) (by decide) ⟨congrArg (fun z => some (Value.int z)) (own_nar1), N11⟩
    · skip
      refine own_ifNo X7 hx hby at_85 (pc' := 88) rfl (feq hc85).1 ?_
      refine own_iconst X7 hx hby at_88 (pc' := 89) rfl (z := (1 : Int32)) (by decide) ?_
      refine own_goto X7 hx hby at_89 (pc' := 93) (by decide) ?_
      refine own_istore X7 hx hby at_93 (pc' := 95) rfl (Ls' := #[.val (.int p1), .val (.int p2), .val (.int ((p1 &&& (2147483647 : Int32)) - ((p1 &&& (2147483647 : Int32)) / (5 : Int32)) * (5 : Int32))), .val (.ref r0), .val (.int (220 : Int32)), .val (.int (1 : Int32)), .unset, .unset, .unset, .unset]) rfl ?_
      refine own_iloadN X7 hx hby at_95 (pc' := 96) rfl rfl ?_
      refine own_iconst X7 hx hby at_96 (pc' := 97) rfl (z := (1 : Int32)) (by decide) ?_
      refine own_iand X7 hx hby at_97 (pc' := 98) rfl rfl ?_
      by_cases hc98 : (p2 &&& (1 : Int32)) = (0 : Int32)
      · skip
        refine own_ifYes X7 hx hby at_98 (pc' := 105) (by decide) (teq hc98).1 ?_
        refine own_iconst X7 hx hby at_105 (pc' := 106) rfl (z := (0 : Int32)) (by decide) ?_
        refine own_istore X7 hx hby at_106 (pc' := 108) rfl (Ls' := #[.val (.int p1), .val (.int p2), .val (.int ((p1 &&& (2147483647 : Int32)) - ((p1 &&& (2147483647 : Int32)) / (5 : Int32)) * (5 : Int32))), .val (.ref r0), .val (.int (220 : Int32)), .val (.int (1 : Int32)), .val (.int (0 : Int32)), .unset, .unset, .unset]) rfl ?_
        refine own_iloadN X7 hx hby at_108 (pc' := 109) rfl rfl ?_
        refine own_iconst X7 hx hby at_109 (pc' := 110) rfl (z := (2 : Int32)) (by decide) ?_
        refine own_iand X7 hx hby at_110 (pc' := 111) rfl rfl ?_
        by_cases hc111 : (p2 &&& (2 : Int32)) = (0 : Int32)
        · skip
          refine own_ifNo X7 hx hby at_111 (pc' := 114) rfl (teq hc111).2 ?_
          refine own_iload X7 hx hby at_114 (pc' := 116) rfl rfl ?_
          refine own_ifYes X7 hx hby at_116 (pc' := 123) (by decide) (by decide) ?_
          refine own_iconst X7 hx hby at_123 (pc' := 124) rfl (z := (0 : Int32)) (by decide) ?_
          refine own_istore X7 hx hby at_124 (pc' := 126) rfl (Ls' := #[.val (.int p1), .val (.int p2), .val (.int ((p1 &&& (2147483647 : Int32)) - ((p1 &&& (2147483647 : Int32)) / (5 : Int32)) * (5 : Int32))), .val (.ref r0), .val (.int (220 : Int32)), .val (.int (1 : Int32)), .val (.int (0 : Int32)), .val (.int (0 : Int32)), .unset, .unset]) rfl ?_
          refine own_iload X7 hx hby at_126 (pc' := 128) rfl rfl ?_
          refine own_ifNo X7 hx hby at_128 (pc' := 131) rfl (by decide) ?_
          refine own_iconst X7 hx hby at_131 (pc' := 132) rfl (z := (4 : Int32)) (by decide) ?_
          refine own_goto X7 hx hby at_132 (pc' := 136) (by decide) ?_
          refine own_iload X7 hx hby at_136 (pc' := 138) rfl rfl ?_
          refine own_ifYes X7 hx hby at_138 (pc' := 145) (by decide) (by decide) ?_
          refine own_iconst X7 hx hby at_145 (pc' := 146) rfl (z := (0 : Int32)) (by decide) ?_
          refine own_iadd X7 hx hby at_146 (pc' := 147) rfl (z := (4 : Int32)) (by decide) ?_
          refine own_iload X7 hx hby at_147 (pc' := 149) rfl rfl ?_
          refine own_ifYes X7 hx hby at_149 (pc' := 156) (by decide) (by decide) ?_
          refine own_iconst X7 hx hby at_156 (pc' := 157) rfl (z := (0 : Int32)) (by decide) ?_
          refine own_iadd X7 hx hby at_157 (pc' := 158) rfl (z := (4 : Int32)) (by decide) ?_
          refine own_istore X7 hx hby at_158 (pc' := 160) rfl (Ls' := #[.val (.int p1), .val (.int p2), .val (.int ((p1 &&& (2147483647 : Int32)) - ((p1 &&& (2147483647 : Int32)) / (5 : Int32)) * (5 : Int32))), .val (.ref r0), .val (.int (220 : Int32)), .val (.int (1 : Int32)), .val (.int (0 : Int32)), .val (.int (0 : Int32)), .val (.int (4 : Int32)), .unset]) rfl ?_
          refine own_iload X7 hx hby at_160 (pc' := 162) rfl rfl ?_
          refine own_iload X7 hx hby at_162 (pc' := 164) rfl rfl ?_
          refine own_ishr X7 hx hby at_164 (pc' := 165) rfl (z := (13 : Int32)) (by decide) ?_
          refine own_iconst X7 hx hby at_165 (pc' := 166) rfl (z := (1 : Int32)) (by decide) ?_
          refine own_iand X7 hx hby at_166 (pc' := 167) rfl (z := (1 : Int32)) (by decide) ?_
          refine own_ifNo X7 hx hby at_167 (pc' := 170) rfl (by decide) ?_
          refine own_iconst X7 hx hby at_170 (pc' := 171) rfl (z := (1 : Int32)) (by decide) ?_
          refine own_goto X7 hx hby at_171 (pc' := 175) (by decide) ?_
          refine own_istore X7 hx hby at_175 (pc' := 177) rfl (Ls' := #[.val (.int p1), .val (.int p2), .val (.int ((p1 &&& (2147483647 : Int32)) - ((p1 &&& (2147483647 : Int32)) / (5 : Int32)) * (5 : Int32))), .val (.ref r0), .val (.int (220 : Int32)), .val (.int (1 : Int32)), .val (.int (0 : Int32)), .val (.int (0 : Int32)), .val (.int (4 : Int32)), .val (.int (1 : Int32))]) rfl ?_
          refine own_aloadN X7 hx hby at_177 (pc' := 178) rfl rfl rfl ?_
          refine own_iload X7 hx hby at_178 (pc' := 180) rfl rfl ?_
          refine own_iload X7 hx hby at_180 (pc' := 182) rfl rfl ?_
          refine own_iload X7 hx hby at_182 (pc' := 184) rfl rfl ?_
          refine own_callV X7 hx hZ (rm_t0 l Z a0 hw [] r0 (1 : Int32) (0 : Int32) (0 : Int32) h0 n0 F0 E0) hown (hw _ (List.mem_of_getElem? (i := 4) rfl)) (hw _ (List.mem_of_getElem? (i := 5) rfl)) (hw _ (List.mem_of_getElem? (i := 7) rfl)) (hw _ (List.mem_of_getElem? (i := 6) rfl)) (hw _ (List.mem_of_getElem? (i := 8) rfl)) (hw _ (List.mem_of_getElem? (i := 2) rfl)) (by decide) E0 (W := 0) (by decide) (by decide) (by rw [hml]; rfl) (argsL := [(.int (1 : Int32)), (.int (0 : Int32)), (.int (0 : Int32))]) (rest := []) rfl (lenOf own_pd1 rfl) rfl (Nat.le_of_eq rfl) (hb hby at_184) e7 (by decide) (by decide) ?_
          intro v12 T12 L12 X12 hQ12
          obtain ⟨hv12, N12q, e12⟩ := hQ12
          rw [show own_ti (0 : Int32) (1 : Int32) (0 : Int32) (0 : Int32) = (1 : Int32) from by decide] at hv12
          subst hv12
          have N12 := Fr.app N0 N12q
          show own_Go p.tables e below (T12.setTop (mkF m 187 #[.val (.int p1), .val (.int p2), .val (.int ((p1 &&& (2147483647 : Int32)) - ((p1 &&& (2147483647 : Int32)) / (5 : Int32)) * (5 : Int32))), .val (.ref r0), .val (.int (220 : Int32)), .val (.int (1 : Int32)), .val (.int (0 : Int32)), .val (.int (0 : Int32)), .val (.int (4 : Int32)), .val (.int (1 : Int32))] [(.int (1 : Int32))])) _
          refine own_iload X12 hx hby at_187 (pc' := 189) rfl rfl ?_
          refine own_icmpNo X12 hx hby at_189 (pc' := 192) rfl (by decide) ?_
          refine own_iconst X12 hx hby at_192 (pc' := 193) rfl (z := (1 : Int32)) (by decide) ?_
          refine own_goto X12 hx hby at_193 (pc' := 197) (by decide) ?_
          exact own_retZ (t := .boolean) X12 hx hret (by simp) (hb hby at_197) hlk (by decide) (by decide) ⟨congrArg (fun z => some (Value.int z)) (own_nar1), N12⟩
        · skip
          refine own_ifYes X7 hx hby at_111 (pc' := 119) (by decide) (feq hc111).2 ?_
          refine own_iconst X7 hx hby at_119 (pc' := 120) rfl (z := (1 : Int32)) (by decide) ?_
          refine own_goto X7 hx hby at_120 (pc' := 124) (by decide) ?_
          refine own_istore X7 hx hby at_124 (pc' := 126) rfl (Ls' := #[.val (.int p1), .val (.int p2), .val (.int ((p1 &&& (2147483647 : Int32)) - ((p1 &&& (2147483647 : Int32)) / (5 : Int32)) * (5 : Int32))), .val (.ref r0), .val (.int (220 : Int32)), .val (.int (1 : Int32)), .val (.int (0 : Int32)), .val (.int (1 : Int32)), .unset, .unset]) rfl ?_
          refine own_iload X7 hx hby at_126 (pc' := 128) rfl rfl ?_
          refine own_ifNo X7 hx hby at_128 (pc' := 131) rfl (by decide) ?_
          refine own_iconst X7 hx hby at_131 (pc' := 132) rfl (z := (4 : Int32)) (by decide) ?_
          refine own_goto X7 hx hby at_132 (pc' := 136) (by decide) ?_
          refine own_iload X7 hx hby at_136 (pc' := 138) rfl rfl ?_
          refine own_ifNo X7 hx hby at_138 (pc' := 141) rfl (by decide) ?_
          refine own_iconst X7 hx hby at_141 (pc' := 142) rfl (z := (2 : Int32)) (by decide) ?_
          refine own_goto X7 hx hby at_142 (pc' := 146) (by decide) ?_
          refine own_iadd X7 hx hby at_146 (pc' := 147) rfl (z := (6 : Int32)) (by decide) ?_
          refine own_iload X7 hx hby at_147 (pc' := 149) rfl rfl ?_
          refine own_ifYes X7 hx hby at_149 (pc' := 156) (by decide) (by decide) ?_
          refine own_iconst X7 hx hby at_156 (pc' := 157) rfl (z := (0 : Int32)) (by decide) ?_
          refine own_iadd X7 hx hby at_157 (pc' := 158) rfl (z := (6 : Int32)) (by decide) ?_
          refine own_istore X7 hx hby at_158 (pc' := 160) rfl (Ls' := #[.val (.int p1), .val (.int p2), .val (.int ((p1 &&& (2147483647 : Int32)) - ((p1 &&& (2147483647 : Int32)) / (5 : Int32)) * (5 : Int32))), .val (.ref r0), .val (.int (220 : Int32)), .val (.int (1 : Int32)), .val (.int (0 : Int32)), .val (.int (1 : Int32)), .val (.int (6 : Int32)), .unset]) rfl ?_
          refine own_iload X7 hx hby at_160 (pc' := 162) rfl rfl ?_
          refine own_iload X7 hx hby at_162 (pc' := 164) rfl rfl ?_
          refine own_ishr X7 hx hby at_164 (pc' := 165) rfl (z := (3 : Int32)) (by decide) ?_
          refine own_iconst X7 hx hby at_165 (pc' := 166) rfl (z := (1 : Int32)) (by decide) ?_
          refine own_iand X7 hx hby at_166 (pc' := 167) rfl (z := (1 : Int32)) (by decide) ?_
          refine own_ifNo X7 hx hby at_167 (pc' := 170) rfl (by decide) ?_
          refine own_iconst X7 hx hby at_170 (pc' := 171) rfl (z := (1 : Int32)) (by decide) ?_
          refine own_goto X7 hx hby at_171 (pc' := 175) (by decide) ?_
          refine own_istore X7 hx hby at_175 (pc' := 177) rfl (Ls' := #[.val (.int p1), .val (.int p2), .val (.int ((p1 &&& (2147483647 : Int32)) - ((p1 &&& (2147483647 : Int32)) / (5 : Int32)) * (5 : Int32))), .val (.ref r0), .val (.int (220 : Int32)), .val (.int (1 : Int32)), .val (.int (0 : Int32)), .val (.int (1 : Int32)), .val (.int (6 : Int32)), .val (.int (1 : Int32))]) rfl ?_
          refine own_aloadN X7 hx hby at_177 (pc' := 178) rfl rfl rfl ?_
          refine own_iload X7 hx hby at_178 (pc' := 180) rfl rfl ?_
          refine own_iload X7 hx hby at_180 (pc' := 182) rfl rfl ?_
          refine own_iload X7 hx hby at_182 (pc' := 184) rfl rfl ?_
          refine own_callV X7 hx hZ (rm_t0 l Z a0 hw [] r0 (1 : Int32) (1 : Int32) (0 : Int32) h0 n0 F0 E0) hown (hw _ (List.mem_of_getElem? (i := 4) rfl)) (hw _ (List.mem_of_getElem? (i := 5) rfl)) (hw _ (List.mem_of_getElem? (i := 7) rfl)) (hw _ (List.mem_of_getElem? (i := 6) rfl)) (hw _ (List.mem_of_getElem? (i := 8) rfl)) (hw _ (List.mem_of_getElem? (i := 2) rfl)) (by decide) E0 (W := 0) (by decide) (by decide) (by rw [hml]; rfl) (argsL := [(.int (1 : Int32)), (.int (1 : Int32)), (.int (0 : Int32))]) (rest := []) rfl (lenOf own_pd1 rfl) rfl (Nat.le_of_eq rfl) (hb hby at_184) e7 (by decide) (by decide) ?_
          intro v13 T13 L13 X13 hQ13
          obtain ⟨hv13, N13q, e13⟩ := hQ13
          rw [show own_ti (0 : Int32) (1 : Int32) (1 : Int32) (0 : Int32) = (1 : Int32) from by decide] at hv13
          subst hv13
          have N13 := Fr.app N0 N13q
          show own_Go p.tables e below (T13.setTop (mkF m 187 #[.val (.int p1), .val (.int p2), .val (.int ((p1 &&& (2147483647 : Int32)) - ((p1 &&& (2147483647 : Int32)) / (5 : Int32)) * (5 : Int32))), .val (.ref r0), .val (.int (220 : Int32)), .val (.int (1 : Int32)), .val (.int (0 : Int32)), .val (.int (1 : Int32)), .val (.int (6 : Int32)), .val (.int (1 : Int32))] [(.int (1 : Int32))])) _
          refine own_iload X13 hx hby at_187 (pc' := 189) rfl rfl ?_
          refine own_icmpNo X13 hx hby at_189 (pc' := 192) rfl (by decide) ?_
          refine own_iconst X13 hx hby at_192 (pc' := 193) rfl (z := (1 : Int32)) (by decide) ?_
          refine own_goto X13 hx hby at_193 (pc' := 197) (by decide) ?_
          exact own_retZ (t := .boolean) X13 hx hret (by simp) (hb hby at_197) hlk (by decide) (by decide) ⟨congrArg (fun z => some (Value.int z)) (own_nar1), N13⟩
      · skip
        refine own_ifNo X7 hx hby at_98 (pc' := 101) rfl (feq hc98).1 ?_
        refine own_iconst X7 hx hby at_101 (pc' := 102) rfl (z := (1 : Int32)) (by decide) ?_
        refine own_goto X7 hx hby at_102 (pc' := 106) (by decide) ?_
        refine own_istore X7 hx hby at_106 (pc' := 108) rfl (Ls' := #[.val (.int p1), .val (.int p2), .val (.int ((p1 &&& (2147483647 : Int32)) - ((p1 &&& (2147483647 : Int32)) / (5 : Int32)) * (5 : Int32))), .val (.ref r0), .val (.int (220 : Int32)), .val (.int (1 : Int32)), .val (.int (1 : Int32)), .unset, .unset, .unset]) rfl ?_
        refine own_iloadN X7 hx hby at_108 (pc' := 109) rfl rfl ?_
        refine own_iconst X7 hx hby at_109 (pc' := 110) rfl (z := (2 : Int32)) (by decide) ?_
        refine own_iand X7 hx hby at_110 (pc' := 111) rfl rfl ?_
        by_cases hc111 : (p2 &&& (2 : Int32)) = (0 : Int32)
        · skip
          refine own_ifNo X7 hx hby at_111 (pc' := 114) rfl (teq hc111).2 ?_
          refine own_iload X7 hx hby at_114 (pc' := 116) rfl rfl ?_
          refine own_ifNo X7 hx hby at_116 (pc' := 119) rfl (by decide) ?_
          refine own_iconst X7 hx hby at_119 (pc' := 120) rfl (z := (1 : Int32)) (by decide) ?_
          refine own_goto X7 hx hby at_120 (pc' := 124) (by decide) ?_
          refine own_istore X7 hx hby at_124 (pc' := 126) rfl (Ls' := #[.val (.int p1), .val (.int p2), .val (.int ((p1 &&& (2147483647 : Int32)) - ((p1 &&& (2147483647 : Int32)) / (5 : Int32)) * (5 : Int32))), .val (.ref r0), .val (.int (220 : Int32)), .val (.int (1 : Int32)), .val (.int (1 : Int32)), .val (.int (1 : Int32)), .unset, .unset]) rfl ?_
          refine own_iload X7 hx hby at_126 (pc' := 128) rfl rfl ?_
          refine own_ifNo X7 hx hby at_128 (pc' := 131) rfl (by decide) ?_
          refine own_iconst X7 hx hby at_131 (pc' := 132) rfl (z := (4 : Int32)) (by decide) ?_
          refine own_goto X7 hx hby at_132 (pc' := 136) (by decide) ?_
          refine own_iload X7 hx hby at_136 (pc' := 138) rfl rfl ?_
          refine own_ifNo X7 hx hby at_138 (pc' := 141) rfl (by decide) ?_
          refine own_iconst X7 hx hby at_141 (pc' := 142) rfl (z := (2 : Int32)) (by decide) ?_
          refine own_goto X7 hx hby at_142 (pc' := 146) (by decide) ?_
          refine own_iadd X7 hx hby at_146 (pc' := 147) rfl (z := (6 : Int32)) (by decide) ?_
          refine own_iload X7 hx hby at_147 (pc' := 149) rfl rfl ?_
          refine own_ifNo X7 hx hby at_149 (pc' := 152) rfl (by decide) ?_
          refine own_iconst X7 hx hby at_152 (pc' := 153) rfl (z := (1 : Int32)) (by decide) ?_
          refine own_goto X7 hx hby at_153 (pc' := 157) (by decide) ?_
          refine own_iadd X7 hx hby at_157 (pc' := 158) rfl (z := (7 : Int32)) (by decide) ?_
          refine own_istore X7 hx hby at_158 (pc' := 160) rfl (Ls' := #[.val (.int p1), .val (.int p2), .val (.int ((p1 &&& (2147483647 : Int32)) - ((p1 &&& (2147483647 : Int32)) / (5 : Int32)) * (5 : Int32))), .val (.ref r0), .val (.int (220 : Int32)), .val (.int (1 : Int32)), .val (.int (1 : Int32)), .val (.int (1 : Int32)), .val (.int (7 : Int32)), .unset]) rfl ?_
          refine own_iload X7 hx hby at_160 (pc' := 162) rfl rfl ?_
          refine own_iload X7 hx hby at_162 (pc' := 164) rfl rfl ?_
          refine own_ishr X7 hx hby at_164 (pc' := 165) rfl (z := (1 : Int32)) (by decide) ?_
          refine own_iconst X7 hx hby at_165 (pc' := 166) rfl (z := (1 : Int32)) (by decide) ?_
          refine own_iand X7 hx hby at_166 (pc' := 167) rfl (z := (1 : Int32)) (by decide) ?_
          refine own_ifNo X7 hx hby at_167 (pc' := 170) rfl (by decide) ?_
          refine own_iconst X7 hx hby at_170 (pc' := 171) rfl (z := (1 : Int32)) (by decide) ?_
          refine own_goto X7 hx hby at_171 (pc' := 175) (by decide) ?_
          refine own_istore X7 hx hby at_175 (pc' := 177) rfl (Ls' := #[.val (.int p1), .val (.int p2), .val (.int ((p1 &&& (2147483647 : Int32)) - ((p1 &&& (2147483647 : Int32)) / (5 : Int32)) * (5 : Int32))), .val (.ref r0), .val (.int (220 : Int32)), .val (.int (1 : Int32)), .val (.int (1 : Int32)), .val (.int (1 : Int32)), .val (.int (7 : Int32)), .val (.int (1 : Int32))]) rfl ?_
          refine own_aloadN X7 hx hby at_177 (pc' := 178) rfl rfl rfl ?_
          refine own_iload X7 hx hby at_178 (pc' := 180) rfl rfl ?_
          refine own_iload X7 hx hby at_180 (pc' := 182) rfl rfl ?_
          refine own_iload X7 hx hby at_182 (pc' := 184) rfl rfl ?_
          refine own_callV X7 hx hZ (rm_t0 l Z a0 hw [] r0 (1 : Int32) (1 : Int32) (1 : Int32) h0 n0 F0 E0) hown (hw _ (List.mem_of_getElem? (i := 4) rfl)) (hw _ (List.mem_of_getElem? (i := 5) rfl)) (hw _ (List.mem_of_getElem? (i := 7) rfl)) (hw _ (List.mem_of_getElem? (i := 6) rfl)) (hw _ (List.mem_of_getElem? (i := 8) rfl)) (hw _ (List.mem_of_getElem? (i := 2) rfl)) (by decide) E0 (W := 0) (by decide) (by decide) (by rw [hml]; rfl) (argsL := [(.int (1 : Int32)), (.int (1 : Int32)), (.int (1 : Int32))]) (rest := []) rfl (lenOf own_pd1 rfl) rfl (Nat.le_of_eq rfl) (hb hby at_184) e7 (by decide) (by decide) ?_
          intro v14 T14 L14 X14 hQ14
          obtain ⟨hv14, N14q, e14⟩ := hQ14
          rw [show own_ti (0 : Int32) (1 : Int32) (1 : Int32) (1 : Int32) = (1 : Int32) from by decide] at hv14
          subst hv14
          have N14 := Fr.app N0 N14q
          show own_Go p.tables e below (T14.setTop (mkF m 187 #[.val (.int p1), .val (.int p2), .val (.int ((p1 &&& (2147483647 : Int32)) - ((p1 &&& (2147483647 : Int32)) / (5 : Int32)) * (5 : Int32))), .val (.ref r0), .val (.int (220 : Int32)), .val (.int (1 : Int32)), .val (.int (1 : Int32)), .val (.int (1 : Int32)), .val (.int (7 : Int32)), .val (.int (1 : Int32))] [(.int (1 : Int32))])) _
          refine own_iload X14 hx hby at_187 (pc' := 189) rfl rfl ?_
          refine own_icmpNo X14 hx hby at_189 (pc' := 192) rfl (by decide) ?_
          refine own_iconst X14 hx hby at_192 (pc' := 193) rfl (z := (1 : Int32)) (by decide) ?_
          refine own_goto X14 hx hby at_193 (pc' := 197) (by decide) ?_
          exact own_retZ (t := .boolean) X14 hx hret (by simp) (hb hby at_197) hlk (by decide) (by decide) ⟨congrArg (fun z => some (Value.int z)) (own_nar1), N14⟩
        · skip
          refine own_ifYes X7 hx hby at_111 (pc' := 119) (by decide) (feq hc111).2 ?_
          refine own_iconst X7 hx hby at_119 (pc' := 120) rfl (z := (1 : Int32)) (by decide) ?_
          refine own_goto X7 hx hby at_120 (pc' := 124) (by decide) ?_
          refine own_istore X7 hx hby at_124 (pc' := 126) rfl (Ls' := #[.val (.int p1), .val (.int p2), .val (.int ((p1 &&& (2147483647 : Int32)) - ((p1 &&& (2147483647 : Int32)) / (5 : Int32)) * (5 : Int32))), .val (.ref r0), .val (.int (220 : Int32)), .val (.int (1 : Int32)), .val (.int (1 : Int32)), .val (.int (1 : Int32)), .unset, .unset]) rfl ?_
          refine own_iload X7 hx hby at_126 (pc' := 128) rfl rfl ?_
          refine own_ifNo X7 hx hby at_128 (pc' := 131) rfl (by decide) ?_
          refine own_iconst X7 hx hby at_131 (pc' := 132) rfl (z := (4 : Int32)) (by decide) ?_
          refine own_goto X7 hx hby at_132 (pc' := 136) (by decide) ?_
          refine own_iload X7 hx hby at_136 (pc' := 138) rfl rfl ?_
          refine own_ifNo X7 hx hby at_138 (pc' := 141) rfl (by decide) ?_
          refine own_iconst X7 hx hby at_141 (pc' := 142) rfl (z := (2 : Int32)) (by decide) ?_
          refine own_goto X7 hx hby at_142 (pc' := 146) (by decide) ?_
          refine own_iadd X7 hx hby at_146 (pc' := 147) rfl (z := (6 : Int32)) (by decide) ?_
          refine own_iload X7 hx hby at_147 (pc' := 149) rfl rfl ?_
          refine own_ifNo X7 hx hby at_149 (pc' := 152) rfl (by decide) ?_
          refine own_iconst X7 hx hby at_152 (pc' := 153) rfl (z := (1 : Int32)) (by decide) ?_
          refine own_goto X7 hx hby at_153 (pc' := 157) (by decide) ?_
          refine own_iadd X7 hx hby at_157 (pc' := 158) rfl (z := (7 : Int32)) (by decide) ?_
          refine own_istore X7 hx hby at_158 (pc' := 160) rfl (Ls' := #[.val (.int p1), .val (.int p2), .val (.int ((p1 &&& (2147483647 : Int32)) - ((p1 &&& (2147483647 : Int32)) / (5 : Int32)) * (5 : Int32))), .val (.ref r0), .val (.int (220 : Int32)), .val (.int (1 : Int32)), .val (.int (1 : Int32)), .val (.int (1 : Int32)), .val (.int (7 : Int32)), .unset]) rfl ?_
          refine own_iload X7 hx hby at_160 (pc' := 162) rfl rfl ?_
          refine own_iload X7 hx hby at_162 (pc' := 164) rfl rfl ?_
          refine own_ishr X7 hx hby at_164 (pc' := 165) rfl (z := (1 : Int32)) (by decide) ?_
          refine own_iconst X7 hx hby at_165 (pc' := 166) rfl (z := (1 : Int32)) (by decide) ?_
          refine own_iand X7 hx hby at_166 (pc' := 167) rfl (z := (1 : Int32)) (by decide) ?_
          refine own_ifNo X7 hx hby at_167 (pc' := 170) rfl (by decide) ?_
          refine own_iconst X7 hx hby at_170 (pc' := 171) rfl (z := (1 : Int32)) (by decide) ?_
          refine own_goto X7 hx hby at_171 (pc' := 175) (by decide) ?_
          refine own_istore X7 hx hby at_175 (pc' := 177) rfl (Ls' := #[.val (.int p1), .val (.int p2), .val (.int ((p1 &&& (2147483647 : Int32)) - ((p1 &&& (2147483647 : Int32)) / (5 : Int32)) * (5 : Int32))), .val (.ref r0), .val (.int (220 : Int32)), .val (.int (1 : Int32)), .val (.int (1 : Int32)), .val (.int (1 : Int32)), .val (.int (7 : Int32)), .val (.int (1 : Int32))]) rfl ?_
          refine own_aloadN X7 hx hby at_177 (pc' := 178) rfl rfl rfl ?_
          refine own_iload X7 hx hby at_178 (pc' := 180) rfl rfl ?_
          refine own_iload X7 hx hby at_180 (pc' := 182) rfl rfl ?_
          refine own_iload X7 hx hby at_182 (pc' := 184) rfl rfl ?_
          refine own_callV X7 hx hZ (rm_t0 l Z a0 hw [] r0 (1 : Int32) (1 : Int32) (1 : Int32) h0 n0 F0 E0) hown (hw _ (List.mem_of_getElem? (i := 4) rfl)) (hw _ (List.mem_of_getElem? (i := 5) rfl)) (hw _ (List.mem_of_getElem? (i := 7) rfl)) (hw _ (List.mem_of_getElem? (i := 6) rfl)) (hw _ (List.mem_of_getElem? (i := 8) rfl)) (hw _ (List.mem_of_getElem? (i := 2) rfl)) (by decide) E0 (W := 0) (by decide) (by decide) (by rw [hml]; rfl) (argsL := [(.int (1 : Int32)), (.int (1 : Int32)), (.int (1 : Int32))]) (rest := []) rfl (lenOf own_pd1 rfl) rfl (Nat.le_of_eq rfl) (hb hby at_184) e7 (by decide) (by decide) ?_
          intro v15 T15 L15 X15 hQ15
          obtain ⟨hv15, N15q, e15⟩ := hQ15
          rw [show own_ti (0 : Int32) (1 : Int32) (1 : Int32) (1 : Int32) = (1 : Int32) from by decide] at hv15
          subst hv15
          have N15 := Fr.app N0 N15q
          show own_Go p.tables e below (T15.setTop (mkF m 187 #[.val (.int p1), .val (.int p2), .val (.int ((p1 &&& (2147483647 : Int32)) - ((p1 &&& (2147483647 : Int32)) / (5 : Int32)) * (5 : Int32))), .val (.ref r0), .val (.int (220 : Int32)), .val (.int (1 : Int32)), .val (.int (1 : Int32)), .val (.int (1 : Int32)), .val (.int (7 : Int32)), .val (.int (1 : Int32))] [(.int (1 : Int32))])) _
          refine own_iload X15 hx hby at_187 (pc' := 189) rfl rfl ?_
          refine own_icmpNo X15 hx hby at_189 (pc' := 192) rfl (by decide) ?_
          refine own_iconst X15 hx hby at_192 (pc' := 193) rfl (z := (1 : Int32)) (by decide) ?_
          refine own_goto X15 hx hby at_193 (pc' := 197) (by decide) ?_
          exact own_retZ (t := .boolean) X15 hx hret (by simp) (hb hby at_197) hlk (by decide) (by decide) ⟨congrArg (fun z => some (Value.int z)) (own_nar1), N15⟩
  · skip
    refine own_ifYes X0 hx hby at_8 (pc' := 23) (by decide) (feq hc8).2 ?_
    refine own_iloadN X0 hx hby at_23 (pc' := 24) rfl rfl ?_
    refine own_iconst X0 hx hby at_24 (pc' := 25) rfl (z := (1 : Int32)) (by decide) ?_
    by_cases hc25 : ((p1 &&& (2147483647 : Int32)) - ((p1 &&& (2147483647 : Int32)) / (5 : Int32)) * (5 : Int32)) = (1 : Int32)
    · skip
      refine own_icmpNo X0 hx hby at_25 (pc' := 28) rfl (teq hc25).2 ?_
      refine own_getS X0 hx hby at_28 (pc' := 31) rfl hZ hown (host := "") (Or.inl (hw _ (List.mem_of_getElem? (i := 22) rfl))) Via.refl e0 S1 ?_
      intro T16 X16 e16
      refine own_astoreN X16 hx hby at_31 (pc' := 32) rfl rfl (Ls' := #[.val (.int p1), .val (.int p2), .val (.int ((p1 &&& (2147483647 : Int32)) - ((p1 &&& (2147483647 : Int32)) / (5 : Int32)) * (5 : Int32))), .val (.ref r1), .unset, .unset, .unset, .unset, .unset, .unset]) rfl ?_
      refine own_sipush X16 hx hby at_32 (pc' := 35) rfl (z := (208 : Int32)) (by decide) ?_
      refine own_istore X16 hx hby at_35 (pc' := 37) rfl (Ls' := #[.val (.int p1), .val (.int p2), .val (.int ((p1 &&& (2147483647 : Int32)) - ((p1 &&& (2147483647 : Int32)) / (5 : Int32)) * (5 : Int32))), .val (.ref r1), .val (.int (208 : Int32)), .unset, .unset, .unset, .unset, .unset]) rfl ?_
      refine own_goto X16 hx hby at_37 (pc' := 82) (by decide) ?_
      refine own_iloadN X16 hx hby at_82 (pc' := 83) rfl rfl ?_
      refine own_iconst X16 hx hby at_83 (pc' := 84) rfl (z := (4 : Int32)) (by decide) ?_
      refine own_iand X16 hx hby at_84 (pc' := 85) rfl rfl ?_
      by_cases hc85 : (p2 &&& (4 : Int32)) = (0 : Int32)
      · skip
        refine own_ifYes X16 hx hby at_85 (pc' := 92) (by decide) (teq hc85).1 ?_
        refine own_iconst X16 hx hby at_92 (pc' := 93) rfl (z := (0 : Int32)) (by decide) ?_
        refine own_istore X16 hx hby at_93 (pc' := 95) rfl (Ls' := #[.val (.int p1), .val (.int p2), .val (.int ((p1 &&& (2147483647 : Int32)) - ((p1 &&& (2147483647 : Int32)) / (5 : Int32)) * (5 : Int32))), .val (.ref r1), .val (.int (208 : Int32)), .val (.int (0 : Int32)), .unset, .unset, .unset, .unset]) rfl ?_
        refine own_iloadN X16 hx hby at_95 (pc' := 96) rfl rfl ?_
        refine own_iconst X16 hx hby at_96 (pc' := 97) rfl (z := (1 : Int32)) (by decide) ?_
        refine own_iand X16 hx hby at_97 (pc' := 98) rfl rfl ?_
        by_cases hc98 : (p2 &&& (1 : Int32)) = (0 : Int32)
        · skip
          refine own_ifYes X16 hx hby at_98 (pc' := 105) (by decide) (teq hc98).1 ?_
          refine own_iconst X16 hx hby at_105 (pc' := 106) rfl (z := (0 : Int32)) (by decide) ?_
          refine own_istore X16 hx hby at_106 (pc' := 108) rfl (Ls' := #[.val (.int p1), .val (.int p2), .val (.int ((p1 &&& (2147483647 : Int32)) - ((p1 &&& (2147483647 : Int32)) / (5 : Int32)) * (5 : Int32))), .val (.ref r1), .val (.int (208 : Int32)), .val (.int (0 : Int32)), .val (.int (0 : Int32)), .unset, .unset, .unset]) rfl ?_
          refine own_iloadN X16 hx hby at_108 (pc' := 109) rfl rfl ?_
          refine own_iconst X16 hx hby at_109 (pc' := 110) rfl (z := (2 : Int32)) (by decide) ?_
          refine own_iand X16 hx hby at_110 (pc' := 111) rfl rfl ?_
          by_cases hc111 : (p2 &&& (2 : Int32)) = (0 : Int32)
          · skip
            refine own_ifNo X16 hx hby at_111 (pc' := 114) rfl (teq hc111).2 ?_
            refine own_iload X16 hx hby at_114 (pc' := 116) rfl rfl ?_
            refine own_ifYes X16 hx hby at_116 (pc' := 123) (by decide) (by decide) ?_
            refine own_iconst X16 hx hby at_123 (pc' := 124) rfl (z := (0 : Int32)) (by decide) ?_
            refine own_istore X16 hx hby at_124 (pc' := 126) rfl (Ls' := #[.val (.int p1), .val (.int p2), .val (.int ((p1 &&& (2147483647 : Int32)) - ((p1 &&& (2147483647 : Int32)) / (5 : Int32)) * (5 : Int32))), .val (.ref r1), .val (.int (208 : Int32)), .val (.int (0 : Int32)), .val (.int (0 : Int32)), .val (.int (0 : Int32)), .unset, .unset]) rfl ?_
            refine own_iload X16 hx hby at_126 (pc' := 128) rfl rfl ?_
            refine own_ifYes X16 hx hby at_128 (pc' := 135) (by decide) (by decide) ?_
            refine own_iconst X16 hx hby at_135 (pc' := 136) rfl (z := (0 : Int32)) (by decide) ?_
            refine own_iload X16 hx hby at_136 (pc' := 138) rfl rfl ?_
            refine own_ifYes X16 hx hby at_138 (pc' := 145) (by decide) (by decide) ?_
            refine own_iconst X16 hx hby at_145 (pc' := 146) rfl (z := (0 : Int32)) (by decide) ?_
            refine own_iadd X16 hx hby at_146 (pc' := 147) rfl (z := (0 : Int32)) (by decide) ?_
            refine own_iload X16 hx hby at_147 (pc' := 149) rfl rfl ?_
            refine own_ifYes X16 hx hby at_149 (pc' := 156) (by decide) (by decide) ?_
            refine own_iconst X16 hx hby at_156 (pc' := 157) rfl (z := (0 : Int32)) (by decide) ?_
            refine own_iadd X16 hx hby at_157 (pc' := 158) rfl (z := (0 : Int32)) (by decide) ?_
            refine own_istore X16 hx hby at_158 (pc' := 160) rfl (Ls' := #[.val (.int p1), .val (.int p2), .val (.int ((p1 &&& (2147483647 : Int32)) - ((p1 &&& (2147483647 : Int32)) / (5 : Int32)) * (5 : Int32))), .val (.ref r1), .val (.int (208 : Int32)), .val (.int (0 : Int32)), .val (.int (0 : Int32)), .val (.int (0 : Int32)), .val (.int (0 : Int32)), .unset]) rfl ?_
            refine own_iload X16 hx hby at_160 (pc' := 162) rfl rfl ?_
            refine own_iload X16 hx hby at_162 (pc' := 164) rfl rfl ?_
            refine own_ishr X16 hx hby at_164 (pc' := 165) rfl (z := (208 : Int32)) (by decide) ?_
            refine own_iconst X16 hx hby at_165 (pc' := 166) rfl (z := (1 : Int32)) (by decide) ?_
            refine own_iand X16 hx hby at_166 (pc' := 167) rfl (z := (0 : Int32)) (by decide) ?_
            refine own_ifYes X16 hx hby at_167 (pc' := 174) (by decide) (by decide) ?_
            refine own_iconst X16 hx hby at_174 (pc' := 175) rfl (z := (0 : Int32)) (by decide) ?_
            refine own_istore X16 hx hby at_175 (pc' := 177) rfl (Ls' := #[.val (.int p1), .val (.int p2), .val (.int ((p1 &&& (2147483647 : Int32)) - ((p1 &&& (2147483647 : Int32)) / (5 : Int32)) * (5 : Int32))), .val (.ref r1), .val (.int (208 : Int32)), .val (.int (0 : Int32)), .val (.int (0 : Int32)), .val (.int (0 : Int32)), .val (.int (0 : Int32)), .val (.int (0 : Int32))]) rfl ?_
            refine own_aloadN X16 hx hby at_177 (pc' := 178) rfl rfl rfl ?_
            refine own_iload X16 hx hby at_178 (pc' := 180) rfl rfl ?_
            refine own_iload X16 hx hby at_180 (pc' := 182) rfl rfl ?_
            refine own_iload X16 hx hby at_182 (pc' := 184) rfl rfl ?_
            refine own_callV X16 hx hZ (rm_t1 l Z a0 hw [] r1 (0 : Int32) (0 : Int32) (0 : Int32) h0 n0 F1 E1) hown (hw _ (List.mem_of_getElem? (i := 4) rfl)) (hw _ (List.mem_of_getElem? (i := 5) rfl)) (hw _ (List.mem_of_getElem? (i := 7) rfl)) (hw _ (List.mem_of_getElem? (i := 6) rfl)) (hw _ (List.mem_of_getElem? (i := 8) rfl)) (hw _ (List.mem_of_getElem? (i := 2) rfl)) (by decide) E1 (W := 0) (by decide) (by decide) (by rw [hml]; rfl) (argsL := [(.int (0 : Int32)), (.int (0 : Int32)), (.int (0 : Int32))]) (rest := []) rfl (lenOf own_pd1 rfl) rfl (Nat.le_of_eq rfl) (hb hby at_184) e16 (by decide) (by decide) ?_
            intro v17 T17 L17 X17 hQ17
            obtain ⟨hv17, N17q, e17⟩ := hQ17
            rw [show own_ti (1 : Int32) (0 : Int32) (0 : Int32) (0 : Int32) = (0 : Int32) from by decide] at hv17
            subst hv17
            have N17 := Fr.app N0 N17q
            show own_Go p.tables e below (T17.setTop (mkF m 187 #[.val (.int p1), .val (.int p2), .val (.int ((p1 &&& (2147483647 : Int32)) - ((p1 &&& (2147483647 : Int32)) / (5 : Int32)) * (5 : Int32))), .val (.ref r1), .val (.int (208 : Int32)), .val (.int (0 : Int32)), .val (.int (0 : Int32)), .val (.int (0 : Int32)), .val (.int (0 : Int32)), .val (.int (0 : Int32))] [(.int (0 : Int32))])) _
            refine own_iload X17 hx hby at_187 (pc' := 189) rfl rfl ?_
            refine own_icmpNo X17 hx hby at_189 (pc' := 192) rfl (by decide) ?_
            refine own_iconst X17 hx hby at_192 (pc' := 193) rfl (z := (1 : Int32)) (by decide) ?_
            refine own_goto X17 hx hby at_193 (pc' := 197) (by decide) ?_
            exact own_retZ (t := .boolean) X17 hx hret (by simp) (hb hby at_197) hlk (by decide) (by decide) ⟨congrArg (fun z => some (Value.int z)) (own_nar1), N17⟩
          · skip
            refine own_ifYes X16 hx hby at_111 (pc' := 119) (by decide) (feq hc111).2 ?_
            refine own_iconst X16 hx hby at_119 (pc' := 120) rfl (z := (1 : Int32)) (by decide) ?_
            refine own_goto X16 hx hby at_120 (pc' := 124) (by decide) ?_
            refine own_istore X16 hx hby at_124 (pc' := 126) rfl (Ls' := #[.val (.int p1), .val (.int p2), .val (.int ((p1 &&& (2147483647 : Int32)) - ((p1 &&& (2147483647 : Int32)) / (5 : Int32)) * (5 : Int32))), .val (.ref r1), .val (.int (208 : Int32)), .val (.int (0 : Int32)), .val (.int (0 : Int32)), .val (.int (1 : Int32)), .unset, .unset]) rfl ?_
            refine own_iload X16 hx hby at_126 (pc' := 128) rfl rfl ?_
            refine own_ifYes X16 hx hby at_128 (pc' := 135) (by decide) (by decide) ?_
            refine own_iconst X16 hx hby at_135 (pc' := 136) rfl (z := (0 : Int32)) (by decide) ?_
            refine own_iload X16 hx hby at_136 (pc' := 138) rfl rfl ?_
            refine own_ifNo X16 hx hby at_138 (pc' := 141) rfl (by decide) ?_
            refine own_iconst X16 hx hby at_141 (pc' := 142) rfl (z := (2 : Int32)) (by decide) ?_
            refine own_goto X16 hx hby at_142 (pc' := 146) (by decide) ?_
            refine own_iadd X16 hx hby at_146 (pc' := 147) rfl (z := (2 : Int32)) (by decide) ?_
            refine own_iload X16 hx hby at_147 (pc' := 149) rfl rfl ?_
            refine own_ifYes X16 hx hby at_149 (pc' := 156) (by decide) (by decide) ?_
            refine own_iconst X16 hx hby at_156 (pc' := 157) rfl (z := (0 : Int32)) (by decide) ?_
            refine own_iadd X16 hx hby at_157 (pc' := 158) rfl (z := (2 : Int32)) (by decide) ?_
            refine own_istore X16 hx hby at_158 (pc' := 160) rfl (Ls' := #[.val (.int p1), .val (.int p2), .val (.int ((p1 &&& (2147483647 : Int32)) - ((p1 &&& (2147483647 : Int32)) / (5 : Int32)) * (5 : Int32))), .val (.ref r1), .val (.int (208 : Int32)), .val (.int (0 : Int32)), .val (.int (0 : Int32)), .val (.int (1 : Int32)), .val (.int (2 : Int32)), .unset]) rfl ?_
            refine own_iload X16 hx hby at_160 (pc' := 162) rfl rfl ?_
            refine own_iload X16 hx hby at_162 (pc' := 164) rfl rfl ?_
            refine own_ishr X16 hx hby at_164 (pc' := 165) rfl (z := (52 : Int32)) (by decide) ?_
            refine own_iconst X16 hx hby at_165 (pc' := 166) rfl (z := (1 : Int32)) (by decide) ?_
            refine own_iand X16 hx hby at_166 (pc' := 167) rfl (z := (0 : Int32)) (by decide) ?_
            refine own_ifYes X16 hx hby at_167 (pc' := 174) (by decide) (by decide) ?_
            refine own_iconst X16 hx hby at_174 (pc' := 175) rfl (z := (0 : Int32)) (by decide) ?_
            refine own_istore X16 hx hby at_175 (pc' := 177) rfl (Ls' := #[.val (.int p1), .val (.int p2), .val (.int ((p1 &&& (2147483647 : Int32)) - ((p1 &&& (2147483647 : Int32)) / (5 : Int32)) * (5 : Int32))), .val (.ref r1), .val (.int (208 : Int32)), .val (.int (0 : Int32)), .val (.int (0 : Int32)), .val (.int (1 : Int32)), .val (.int (2 : Int32)), .val (.int (0 : Int32))]) rfl ?_
            refine own_aloadN X16 hx hby at_177 (pc' := 178) rfl rfl rfl ?_
            refine own_iload X16 hx hby at_178 (pc' := 180) rfl rfl ?_
            refine own_iload X16 hx hby at_180 (pc' := 182) rfl rfl ?_
            refine own_iload X16 hx hby at_182 (pc' := 184) rfl rfl ?_
            refine own_callV X16 hx hZ (rm_t1 l Z a0 hw [] r1 (0 : Int32) (1 : Int32) (0 : Int32) h0 n0 F1 E1) hown (hw _ (List.mem_of_getElem? (i := 4) rfl)) (hw _ (List.mem_of_getElem? (i := 5) rfl)) (hw _ (List.mem_of_getElem? (i := 7) rfl)) (hw _ (List.mem_of_getElem? (i := 6) rfl)) (hw _ (List.mem_of_getElem? (i := 8) rfl)) (hw _ (List.mem_of_getElem? (i := 2) rfl)) (by decide) E1 (W := 0) (by decide) (by decide) (by rw [hml]; rfl) (argsL := [(.int (0 : Int32)), (.int (1 : Int32)), (.int (0 : Int32))]) (rest := []) rfl (lenOf own_pd1 rfl) rfl (Nat.le_of_eq rfl) (hb hby at_184) e16 (by decide) (by decide) ?_
            intro v18 T18 L18 X18 hQ18
            obtain ⟨hv18, N18q, e18⟩ := hQ18
            rw [show own_ti (1 : Int32) (0 : Int32) (1 : Int32) (0 : Int32) = (0 : Int32) from by decide] at hv18
            subst hv18
            have N18 := Fr.app N0 N18q
            show own_Go p.tables e below (T18.setTop (mkF m 187 #[.val (.int p1), .val (.int p2), .val (.int ((p1 &&& (2147483647 : Int32)) - ((p1 &&& (2147483647 : Int32)) / (5 : Int32)) * (5 : Int32))), .val (.ref r1), .val (.int (208 : Int32)), .val (.int (0 : Int32)), .val (.int (0 : Int32)), .val (.int (1 : Int32)), .val (.int (2 : Int32)), .val (.int (0 : Int32))] [(.int (0 : Int32))])) _
            refine own_iload X18 hx hby at_187 (pc' := 189) rfl rfl ?_
            refine own_icmpNo X18 hx hby at_189 (pc' := 192) rfl (by decide) ?_
            refine own_iconst X18 hx hby at_192 (pc' := 193) rfl (z := (1 : Int32)) (by decide) ?_
            refine own_goto X18 hx hby at_193 (pc' := 197) (by decide) ?_
            exact own_retZ (t := .boolean) X18 hx hret (by simp) (hb hby at_197) hlk (by decide) (by decide) ⟨congrArg (fun z => some (Value.int z)) (own_nar1), N18⟩
        · skip
          refine own_ifNo X16 hx hby at_98 (pc' := 101) rfl (feq hc98).1 ?_
          refine own_iconst X16 hx hby at_101 (pc' := 102) rfl (z := (1 : Int32)) (by decide) ?_
          refine own_goto X16 hx hby at_102 (pc' := 106) (by decide) ?_
          refine own_istore X16 hx hby at_106 (pc' := 108) rfl (Ls' := #[.val (.int p1), .val (.int p2), .val (.int ((p1 &&& (2147483647 : Int32)) - ((p1 &&& (2147483647 : Int32)) / (5 : Int32)) * (5 : Int32))), .val (.ref r1), .val (.int (208 : Int32)), .val (.int (0 : Int32)), .val (.int (1 : Int32)), .unset, .unset, .unset]) rfl ?_
          refine own_iloadN X16 hx hby at_108 (pc' := 109) rfl rfl ?_
          refine own_iconst X16 hx hby at_109 (pc' := 110) rfl (z := (2 : Int32)) (by decide) ?_
          refine own_iand X16 hx hby at_110 (pc' := 111) rfl rfl ?_
          by_cases hc111 : (p2 &&& (2 : Int32)) = (0 : Int32)
          · skip
            refine own_ifNo X16 hx hby at_111 (pc' := 114) rfl (teq hc111).2 ?_
            refine own_iload X16 hx hby at_114 (pc' := 116) rfl rfl ?_
            refine own_ifNo X16 hx hby at_116 (pc' := 119) rfl (by decide) ?_
            refine own_iconst X16 hx hby at_119 (pc' := 120) rfl (z := (1 : Int32)) (by decide) ?_
            refine own_goto X16 hx hby at_120 (pc' := 124) (by decide) ?_
            refine own_istore X16 hx hby at_124 (pc' := 126) rfl (Ls' := #[.val (.int p1), .val (.int p2), .val (.int ((p1 &&& (2147483647 : Int32)) - ((p1 &&& (2147483647 : Int32)) / (5 : Int32)) * (5 : Int32))), .val (.ref r1), .val (.int (208 : Int32)), .val (.int (0 : Int32)), .val (.int (1 : Int32)), .val (.int (1 : Int32)), .unset, .unset]) rfl ?_
            refine own_iload X16 hx hby at_126 (pc' := 128) rfl rfl ?_
            refine own_ifYes X16 hx hby at_128 (pc' := 135) (by decide) (by decide) ?_
            refine own_iconst X16 hx hby at_135 (pc' := 136) rfl (z := (0 : Int32)) (by decide) ?_
            refine own_iload X16 hx hby at_136 (pc' := 138) rfl rfl ?_
            refine own_ifNo X16 hx hby at_138 (pc' := 141) rfl (by decide) ?_
            refine own_iconst X16 hx hby at_141 (pc' := 142) rfl (z := (2 : Int32)) (by decide) ?_
            refine own_goto X16 hx hby at_142 (pc' := 146) (by decide) ?_
            refine own_iadd X16 hx hby at_146 (pc' := 147) rfl (z := (2 : Int32)) (by decide) ?_
            refine own_iload X16 hx hby at_147 (pc' := 149) rfl rfl ?_
            refine own_ifNo X16 hx hby at_149 (pc' := 152) rfl (by decide) ?_
            refine own_iconst X16 hx hby at_152 (pc' := 153) rfl (z := (1 : Int32)) (by decide) ?_
            refine own_goto X16 hx hby at_153 (pc' := 157) (by decide) ?_
            refine own_iadd X16 hx hby at_157 (pc' := 158) rfl (z := (3 : Int32)) (by decide) ?_
            refine own_istore X16 hx hby at_158 (pc' := 160) rfl (Ls' := #[.val (.int p1), .val (.int p2), .val (.int ((p1 &&& (2147483647 : Int32)) - ((p1 &&& (2147483647 : Int32)) / (5 : Int32)) * (5 : Int32))), .val (.ref r1), .val (.int (208 : Int32)), .val (.int (0 : Int32)), .val (.int (1 : Int32)), .val (.int (1 : Int32)), .val (.int (3 : Int32)), .unset]) rfl ?_
            refine own_iload X16 hx hby at_160 (pc' := 162) rfl rfl ?_
            refine own_iload X16 hx hby at_162 (pc' := 164) rfl rfl ?_
            refine own_ishr X16 hx hby at_164 (pc' := 165) rfl (z := (26 : Int32)) (by decide) ?_
            refine own_iconst X16 hx hby at_165 (pc' := 166) rfl (z := (1 : Int32)) (by decide) ?_
            refine own_iand X16 hx hby at_166 (pc' := 167) rfl (z := (0 : Int32)) (by decide) ?_
            refine own_ifYes X16 hx hby at_167 (pc' := 174) (by decide) (by decide) ?_
            refine own_iconst X16 hx hby at_174 (pc' := 175) rfl (z := (0 : Int32)) (by decide) ?_
            refine own_istore X16 hx hby at_175 (pc' := 177) rfl (Ls' := #[.val (.int p1), .val (.int p2), .val (.int ((p1 &&& (2147483647 : Int32)) - ((p1 &&& (2147483647 : Int32)) / (5 : Int32)) * (5 : Int32))), .val (.ref r1), .val (.int (208 : Int32)), .val (.int (0 : Int32)), .val (.int (1 : Int32)), .val (.int (1 : Int32)), .val (.int (3 : Int32)), .val (.int (0 : Int32))]) rfl ?_
            refine own_aloadN X16 hx hby at_177 (pc' := 178) rfl rfl rfl ?_
            refine own_iload X16 hx hby at_178 (pc' := 180) rfl rfl ?_
            refine own_iload X16 hx hby at_180 (pc' := 182) rfl rfl ?_
            refine own_iload X16 hx hby at_182 (pc' := 184) rfl rfl ?_
            refine own_callV X16 hx hZ (rm_t1 l Z a0 hw [] r1 (0 : Int32) (1 : Int32) (1 : Int32) h0 n0 F1 E1) hown (hw _ (List.mem_of_getElem? (i := 4) rfl)) (hw _ (List.mem_of_getElem? (i := 5) rfl)) (hw _ (List.mem_of_getElem? (i := 7) rfl)) (hw _ (List.mem_of_getElem? (i := 6) rfl)) (hw _ (List.mem_of_getElem? (i := 8) rfl)) (hw _ (List.mem_of_getElem? (i := 2) rfl)) (by decide) E1 (W := 0) (by decide) (by decide) (by rw [hml]; rfl) (argsL := [(.int (0 : Int32)), (.int (1 : Int32)), (.int (1 : Int32))]) (rest := []) rfl (lenOf own_pd1 rfl) rfl (Nat.le_of_eq rfl) (hb hby at_184) e16 (by decide) (by decide) ?_
            intro v19 T19 L19 X19 hQ19
            obtain ⟨hv19, N19q, e19⟩ := hQ19
            rw [show own_ti (1 : Int32) (0 : Int32) (1 : Int32) (1 : Int32) = (0 : Int32) from by decide] at hv19
            subst hv19
            have N19 := Fr.app N0 N19q
            show own_Go p.tables e below (T19.setTop (mkF m 187 #[.val (.int p1), .val (.int p2), .val (.int ((p1 &&& (2147483647 : Int32)) - ((p1 &&& (2147483647 : Int32)) / (5 : Int32)) * (5 : Int32))), .val (.ref r1), .val (.int (208 : Int32)), .val (.int (0 : Int32)), .val (.int (1 : Int32)), .val (.int (1 : Int32)), .val (.int (3 : Int32)), .val (.int (0 : Int32))] [(.int (0 : Int32))])) _
            refine own_iload X19 hx hby at_187 (pc' := 189) rfl rfl ?_
            refine own_icmpNo X19 hx hby at_189 (pc' := 192) rfl (by decide) ?_
            refine own_iconst X19 hx hby at_192 (pc' := 193) rfl (z := (1 : Int32)) (by decide) ?_
            refine own_goto X19 hx hby at_193 (pc' := 197) (by decide) ?_
            exact own_retZ (t := .boolean) X19 hx hret (by simp) (hb hby at_197) hlk (by decide) (by decide) ⟨congrArg (fun z => some (Value.int z)) (own_nar1), N19⟩
          · skip
            refine own_ifYes X16 hx hby at_111 (pc' := 119) (by decide) (feq hc111).2 ?_
            refine own_iconst X16 hx hby at_119 (pc' := 120) rfl (z := (1 : Int32)) (by decide) ?_
            refine own_goto X16 hx hby at_120 (pc' := 124) (by decide) ?_
            refine own_istore X16 hx hby at_124 (pc' := 126) rfl (Ls' := #[.val (.int p1), .val (.int p2), .val (.int ((p1 &&& (2147483647 : Int32)) - ((p1 &&& (2147483647 : Int32)) / (5 : Int32)) * (5 : Int32))), .val (.ref r1), .val (.int (208 : Int32)), .val (.int (0 : Int32)), .val (.int (1 : Int32)), .val (.int (1 : Int32)), .unset, .unset]) rfl ?_
            refine own_iload X16 hx hby at_126 (pc' := 128) rfl rfl ?_
            refine own_ifYes X16 hx hby at_128 (pc' := 135) (by decide) (by decide) ?_
            refine own_iconst X16 hx hby at_135 (pc' := 136) rfl (z := (0 : Int32)) (by decide) ?_
            refine own_iload X16 hx hby at_136 (pc' := 138) rfl rfl ?_
            refine own_ifNo X16 hx hby at_138 (pc' := 141) rfl (by decide) ?_
            refine own_iconst X16 hx hby at_141 (pc' := 142) rfl (z := (2 : Int32)) (by decide) ?_
            refine own_goto X16 hx hby at_142 (pc' := 146) (by decide) ?_
            refine own_iadd X16 hx hby at_146 (pc' := 147) rfl (z := (2 : Int32)) (by decide) ?_
            refine own_iload X16 hx hby at_147 (pc' := 149) rfl rfl ?_
            refine own_ifNo X16 hx hby at_149 (pc' := 152) rfl (by decide) ?_
            refine own_iconst X16 hx hby at_152 (pc' := 153) rfl (z := (1 : Int32)) (by decide) ?_
            refine own_goto X16 hx hby at_153 (pc' := 157) (by decide) ?_
            refine own_iadd X16 hx hby at_157 (pc' := 158) rfl (z := (3 : Int32)) (by decide) ?_
            refine own_istore X16 hx hby at_158 (pc' := 160) rfl (Ls' := #[.val (.int p1), .val (.int p2), .val (.int ((p1 &&& (2147483647 : Int32)) - ((p1 &&& (2147483647 : Int32)) / (5 : Int32)) * (5 : Int32))), .val (.ref r1), .val (.int (208 : Int32)), .val (.int (0 : Int32)), .val (.int (1 : Int32)), .val (.int (1 : Int32)), .val (.int (3 : Int32)), .unset]) rfl ?_
            refine own_iload X16 hx hby at_160 (pc' := 162) rfl rfl ?_
            refine own_iload X16 hx hby at_162 (pc' := 164) rfl rfl ?_
            refine own_ishr X16 hx hby at_164 (pc' := 165) rfl (z := (26 : Int32)) (by decide) ?_
            refine own_iconst X16 hx hby at_165 (pc' := 166) rfl (z := (1 : Int32)) (by decide) ?_
            refine own_iand X16 hx hby at_166 (pc' := 167) rfl (z := (0 : Int32)) (by decide) ?_
            refine own_ifYes X16 hx hby at_167 (pc' := 174) (by decide) (by decide) ?_
            refine own_iconst X16 hx hby at_174 (pc' := 175) rfl (z := (0 : Int32)) (by decide) ?_
            refine own_istore X16 hx hby at_175 (pc' := 177) rfl (Ls' := #[.val (.int p1), .val (.int p2), .val (.int ((p1 &&& (2147483647 : Int32)) - ((p1 &&& (2147483647 : Int32)) / (5 : Int32)) * (5 : Int32))), .val (.ref r1), .val (.int (208 : Int32)), .val (.int (0 : Int32)), .val (.int (1 : Int32)), .val (.int (1 : Int32)), .val (.int (3 : Int32)), .val (.int (0 : Int32))]) rfl ?_
            refine own_aloadN X16 hx hby at_177 (pc' := 178) rfl rfl rfl ?_
            refine own_iload X16 hx hby at_178 (pc' := 180) rfl rfl ?_
            refine own_iload X16 hx hby at_180 (pc' := 182) rfl rfl ?_
            refine own_iload X16 hx hby at_182 (pc' := 184) rfl rfl ?_
            refine own_callV X16 hx hZ (rm_t1 l Z a0 hw [] r1 (0 : Int32) (1 : Int32) (1 : Int32) h0 n0 F1 E1) hown (hw _ (List.mem_of_getElem? (i := 4) rfl)) (hw _ (List.mem_of_getElem? (i := 5) rfl)) (hw _ (List.mem_of_getElem? (i := 7) rfl)) (hw _ (List.mem_of_getElem? (i := 6) rfl)) (hw _ (List.mem_of_getElem? (i := 8) rfl)) (hw _ (List.mem_of_getElem? (i := 2) rfl)) (by decide) E1 (W := 0) (by decide) (by decide) (by rw [hml]; rfl) (argsL := [(.int (0 : Int32)), (.int (1 : Int32)), (.int (1 : Int32))]) (rest := []) rfl (lenOf own_pd1 rfl) rfl (Nat.le_of_eq rfl) (hb hby at_184) e16 (by decide) (by decide) ?_
            intro v20 T20 L20 X20 hQ20
            obtain ⟨hv20, N20q, e20⟩ := hQ20
            rw [show own_ti (1 : Int32) (0 : Int32) (1 : Int32) (1 : Int32) = (0 : Int32) from by decide] at hv20
            subst hv20
            have N20 := Fr.app N0 N20q
            show own_Go p.tables e below (T20.setTop (mkF m 187 #[.val (.int p1), .val (.int p2), .val (.int ((p1 &&& (2147483647 : Int32)) - ((p1 &&& (2147483647 : Int32)) / (5 : Int32)) * (5 : Int32))), .val (.ref r1), .val (.int (208 : Int32)), .val (.int (0 : Int32)), .val (.int (1 : Int32)), .val (.int (1 : Int32)), .val (.int (3 : Int32)), .val (.int (0 : Int32))] [(.int (0 : Int32))])) _
            refine own_iload X20 hx hby at_187 (pc' := 189) rfl rfl ?_
            refine own_icmpNo X20 hx hby at_189 (pc' := 192) rfl (by decide) ?_
            refine own_iconst X20 hx hby at_192 (pc' := 193) rfl (z := (1 : Int32)) (by decide) ?_
            refine own_goto X20 hx hby at_193 (pc' := 197) (by decide) ?_
            exact own_retZ (t := .boolean) X20 hx hret (by simp) (hb hby at_197) hlk (by decide) (by decide) ⟨congrArg (fun z => some (Value.int z)) (own_nar1), N20⟩
      · skip
        refine own_ifNo X16 hx hby at_85 (pc' := 88) rfl (feq hc85).1 ?_
        refine own_iconst X16 hx hby at_88 (pc' := 89) rfl (z := (1 : Int32)) (by decide) ?_
        refine own_goto X16 hx hby at_89 (pc' := 93) (by decide) ?_
        refine own_istore X16 hx hby at_93 (pc' := 95) rfl (Ls' := #[.val (.int p1), .val (.int p2), .val (.int ((p1 &&& (2147483647 : Int32)) - ((p1 &&& (2147483647 : Int32)) / (5 : Int32)) * (5 : Int32))), .val (.ref r1), .val (.int (208 : Int32)), .val (.int (1 : Int32)), .unset, .unset, .unset, .unset]) rfl ?_
        refine own_iloadN X16 hx hby at_95 (pc' := 96) rfl rfl ?_
        refine own_iconst X16 hx hby at_96 (pc' := 97) rfl (z := (1 : Int32)) (by decide) ?_
        refine own_iand X16 hx hby at_97 (pc' := 98) rfl rfl ?_
        by_cases hc98 : (p2 &&& (1 : Int32)) = (0 : Int32)
        · skip
          refine own_ifYes X16 hx hby at_98 (pc' := 105) (by decide) (teq hc98).1 ?_
          refine own_iconst X16 hx hby at_105 (pc' := 106) rfl (z := (0 : Int32)) (by decide) ?_
          refine own_istore X16 hx hby at_106 (pc' := 108) rfl (Ls' := #[.val (.int p1), .val (.int p2), .val (.int ((p1 &&& (2147483647 : Int32)) - ((p1 &&& (2147483647 : Int32)) / (5 : Int32)) * (5 : Int32))), .val (.ref r1), .val (.int (208 : Int32)), .val (.int (1 : Int32)), .val (.int (0 : Int32)), .unset, .unset, .unset]) rfl ?_
          refine own_iloadN X16 hx hby at_108 (pc' := 109) rfl rfl ?_
          refine own_iconst X16 hx hby at_109 (pc' := 110) rfl (z := (2 : Int32)) (by decide) ?_
          refine own_iand X16 hx hby at_110 (pc' := 111) rfl rfl ?_
          by_cases hc111 : (p2 &&& (2 : Int32)) = (0 : Int32)
          · skip
            refine own_ifNo X16 hx hby at_111 (pc' := 114) rfl (teq hc111).2 ?_
            refine own_iload X16 hx hby at_114 (pc' := 116) rfl rfl ?_
            refine own_ifYes X16 hx hby at_116 (pc' := 123) (by decide) (by decide) ?_
            refine own_iconst X16 hx hby at_123 (pc' := 124) rfl (z := (0 : Int32)) (by decide) ?_
            refine own_istore X16 hx hby at_124 (pc' := 126) rfl (Ls' := #[.val (.int p1), .val (.int p2), .val (.int ((p1 &&& (2147483647 : Int32)) - ((p1 &&& (2147483647 : Int32)) / (5 : Int32)) * (5 : Int32))), .val (.ref r1), .val (.int (208 : Int32)), .val (.int (1 : Int32)), .val (.int (0 : Int32)), .val (.int (0 : Int32)), .unset, .unset]) rfl ?_
            refine own_iload X16 hx hby at_126 (pc' := 128) rfl rfl ?_
            refine own_ifNo X16 hx hby at_128 (pc' := 131) rfl (by decide) ?_
            refine own_iconst X16 hx hby at_131 (pc' := 132) rfl (z := (4 : Int32)) (by decide) ?_
            refine own_goto X16 hx hby at_132 (pc' := 136) (by decide) ?_
            refine own_iload X16 hx hby at_136 (pc' := 138) rfl rfl ?_
            refine own_ifYes X16 hx hby at_138 (pc' := 145) (by decide) (by decide) ?_
            refine own_iconst X16 hx hby at_145 (pc' := 146) rfl (z := (0 : Int32)) (by decide) ?_
            refine own_iadd X16 hx hby at_146 (pc' := 147) rfl (z := (4 : Int32)) (by decide) ?_
            refine own_iload X16 hx hby at_147 (pc' := 149) rfl rfl ?_
            refine own_ifYes X16 hx hby at_149 (pc' := 156) (by decide) (by decide) ?_
            refine own_iconst X16 hx hby at_156 (pc' := 157) rfl (z := (0 : Int32)) (by decide) ?_
            refine own_iadd X16 hx hby at_157 (pc' := 158) rfl (z := (4 : Int32)) (by decide) ?_
            refine own_istore X16 hx hby at_158 (pc' := 160) rfl (Ls' := #[.val (.int p1), .val (.int p2), .val (.int ((p1 &&& (2147483647 : Int32)) - ((p1 &&& (2147483647 : Int32)) / (5 : Int32)) * (5 : Int32))), .val (.ref r1), .val (.int (208 : Int32)), .val (.int (1 : Int32)), .val (.int (0 : Int32)), .val (.int (0 : Int32)), .val (.int (4 : Int32)), .unset]) rfl ?_
            refine own_iload X16 hx hby at_160 (pc' := 162) rfl rfl ?_
            refine own_iload X16 hx hby at_162 (pc' := 164) rfl rfl ?_
            refine own_ishr X16 hx hby at_164 (pc' := 165) rfl (z := (13 : Int32)) (by decide) ?_
            refine own_iconst X16 hx hby at_165 (pc' := 166) rfl (z := (1 : Int32)) (by decide) ?_
            refine own_iand X16 hx hby at_166 (pc' := 167) rfl (z := (1 : Int32)) (by decide) ?_
            refine own_ifNo X16 hx hby at_167 (pc' := 170) rfl (by decide) ?_
            refine own_iconst X16 hx hby at_170 (pc' := 171) rfl (z := (1 : Int32)) (by decide) ?_
            refine own_goto X16 hx hby at_171 (pc' := 175) (by decide) ?_
            refine own_istore X16 hx hby at_175 (pc' := 177) rfl (Ls' := #[.val (.int p1), .val (.int p2), .val (.int ((p1 &&& (2147483647 : Int32)) - ((p1 &&& (2147483647 : Int32)) / (5 : Int32)) * (5 : Int32))), .val (.ref r1), .val (.int (208 : Int32)), .val (.int (1 : Int32)), .val (.int (0 : Int32)), .val (.int (0 : Int32)), .val (.int (4 : Int32)), .val (.int (1 : Int32))]) rfl ?_
            refine own_aloadN X16 hx hby at_177 (pc' := 178) rfl rfl rfl ?_
            refine own_iload X16 hx hby at_178 (pc' := 180) rfl rfl ?_
            refine own_iload X16 hx hby at_180 (pc' := 182) rfl rfl ?_
            refine own_iload X16 hx hby at_182 (pc' := 184) rfl rfl ?_
            refine own_callV X16 hx hZ (rm_t1 l Z a0 hw [] r1 (1 : Int32) (0 : Int32) (0 : Int32) h0 n0 F1 E1) hown (hw _ (List.mem_of_getElem? (i := 4) rfl)) (hw _ (List.mem_of_getElem? (i := 5) rfl)) (hw _ (List.mem_of_getElem? (i := 7) rfl)) (hw _ (List.mem_of_getElem? (i := 6) rfl)) (hw _ (List.mem_of_getElem? (i := 8) rfl)) (hw _ (List.mem_of_getElem? (i := 2) rfl)) (by decide) E1 (W := 0) (by decide) (by decide) (by rw [hml]; rfl) (argsL := [(.int (1 : Int32)), (.int (0 : Int32)), (.int (0 : Int32))]) (rest := []) rfl (lenOf own_pd1 rfl) rfl (Nat.le_of_eq rfl) (hb hby at_184) e16 (by decide) (by decide) ?_
            intro v21 T21 L21 X21 hQ21
            obtain ⟨hv21, N21q, e21⟩ := hQ21
            rw [show own_ti (1 : Int32) (1 : Int32) (0 : Int32) (0 : Int32) = (1 : Int32) from by decide] at hv21
            subst hv21
            have N21 := Fr.app N0 N21q
            show own_Go p.tables e below (T21.setTop (mkF m 187 #[.val (.int p1), .val (.int p2), .val (.int ((p1 &&& (2147483647 : Int32)) - ((p1 &&& (2147483647 : Int32)) / (5 : Int32)) * (5 : Int32))), .val (.ref r1), .val (.int (208 : Int32)), .val (.int (1 : Int32)), .val (.int (0 : Int32)), .val (.int (0 : Int32)), .val (.int (4 : Int32)), .val (.int (1 : Int32))] [(.int (1 : Int32))])) _
            refine own_iload X21 hx hby at_187 (pc' := 189) rfl rfl ?_
            refine own_icmpNo X21 hx hby at_189 (pc' := 192) rfl (by decide) ?_
            refine own_iconst X21 hx hby at_192 (pc' := 193) rfl (z := (1 : Int32)) (by decide) ?_
            refine own_goto X21 hx hby at_193 (pc' := 197) (by decide) ?_
            exact own_retZ (t := .boolean) X21 hx hret (by simp) (hb hby at_197) hlk (by decide) (by decide) ⟨congrArg (fun z => some (Value.int z)) (own_nar1), N21⟩
          · skip
            refine own_ifYes X16 hx hby at_111 (pc' := 119) (by decide) (feq hc111).2 ?_
            refine own_iconst X16 hx hby at_119 (pc' := 120) rfl (z := (1 : Int32)) (by decide) ?_
            refine own_goto X16 hx hby at_120 (pc' := 124) (by decide) ?_
            refine own_istore X16 hx hby at_124 (pc' := 126) rfl (Ls' := #[.val (.int p1), .val (.int p2), .val (.int ((p1 &&& (2147483647 : Int32)) - ((p1 &&& (2147483647 : Int32)) / (5 : Int32)) * (5 : Int32))), .val (.ref r1), .val (.int (208 : Int32)), .val (.int (1 : Int32)), .val (.int (0 : Int32)), .val (.int (1 : Int32)), .unset, .unset]) rfl ?_
            refine own_iload X16 hx hby at_126 (pc' := 128) rfl rfl ?_
            refine own_ifNo X16 hx hby at_128 (pc' := 131) rfl (by decide) ?_
            refine own_iconst X16 hx hby at_131 (pc' := 132) rfl (z := (4 : Int32)) (by decide) ?_
            refine own_goto X16 hx hby at_132 (pc' := 136) (by decide) ?_
            refine own_iload X16 hx hby at_136 (pc' := 138) rfl rfl ?_
            refine own_ifNo X16 hx hby at_138 (pc' := 141) rfl (by decide) ?_
            refine own_iconst X16 hx hby at_141 (pc' := 142) rfl (z := (2 : Int32)) (by decide) ?_
            refine own_goto X16 hx hby at_142 (pc' := 146) (by decide) ?_
            refine own_iadd X16 hx hby at_146 (pc' := 147) rfl (z := (6 : Int32)) (by decide) ?_
            refine own_iload X16 hx hby at_147 (pc' := 149) rfl rfl ?_
            refine own_ifYes X16 hx hby at_149 (pc' := 156) (by decide) (by decide) ?_
            refine own_iconst X16 hx hby at_156 (pc' := 157) rfl (z := (0 : Int32)) (by decide) ?_
            refine own_iadd X16 hx hby at_157 (pc' := 158) rfl (z := (6 : Int32)) (by decide) ?_
            refine own_istore X16 hx hby at_158 (pc' := 160) rfl (Ls' := #[.val (.int p1), .val (.int p2), .val (.int ((p1 &&& (2147483647 : Int32)) - ((p1 &&& (2147483647 : Int32)) / (5 : Int32)) * (5 : Int32))), .val (.ref r1), .val (.int (208 : Int32)), .val (.int (1 : Int32)), .val (.int (0 : Int32)), .val (.int (1 : Int32)), .val (.int (6 : Int32)), .unset]) rfl ?_
            refine own_iload X16 hx hby at_160 (pc' := 162) rfl rfl ?_
            refine own_iload X16 hx hby at_162 (pc' := 164) rfl rfl ?_
            refine own_ishr X16 hx hby at_164 (pc' := 165) rfl (z := (3 : Int32)) (by decide) ?_
            refine own_iconst X16 hx hby at_165 (pc' := 166) rfl (z := (1 : Int32)) (by decide) ?_
            refine own_iand X16 hx hby at_166 (pc' := 167) rfl (z := (1 : Int32)) (by decide) ?_
            refine own_ifNo X16 hx hby at_167 (pc' := 170) rfl (by decide) ?_
            refine own_iconst X16 hx hby at_170 (pc' := 171) rfl (z := (1 : Int32)) (by decide) ?_
            refine own_goto X16 hx hby at_171 (pc' := 175) (by decide) ?_
            refine own_istore X16 hx hby at_175 (pc' := 177) rfl (Ls' := #[.val (.int p1), .val (.int p2), .val (.int ((p1 &&& (2147483647 : Int32)) - ((p1 &&& (2147483647 : Int32)) / (5 : Int32)) * (5 : Int32))), .val (.ref r1), .val (.int (208 : Int32)), .val (.int (1 : Int32)), .val (.int (0 : Int32)), .val (.int (1 : Int32)), .val (.int (6 : Int32)), .val (.int (1 : Int32))]) rfl ?_
            refine own_aloadN X16 hx hby at_177 (pc' := 178) rfl rfl rfl ?_
            refine own_iload X16 hx hby at_178 (pc' := 180) rfl rfl ?_
            refine own_iload X16 hx hby at_180 (pc' := 182) rfl rfl ?_
            refine own_iload X16 hx hby at_182 (pc' := 184) rfl rfl ?_
            refine own_callV X16 hx hZ (rm_t1 l Z a0 hw [] r1 (1 : Int32) (1 : Int32) (0 : Int32) h0 n0 F1 E1) hown (hw _ (List.mem_of_getElem? (i := 4) rfl)) (hw _ (List.mem_of_getElem? (i := 5) rfl)) (hw _ (List.mem_of_getElem? (i := 7) rfl)) (hw _ (List.mem_of_getElem? (i := 6) rfl)) (hw _ (List.mem_of_getElem? (i := 8) rfl)) (hw _ (List.mem_of_getElem? (i := 2) rfl)) (by decide) E1 (W := 0) (by decide) (by decide) (by rw [hml]; rfl) (argsL := [(.int (1 : Int32)), (.int (1 : Int32)), (.int (0 : Int32))]) (rest := []) rfl (lenOf own_pd1 rfl) rfl (Nat.le_of_eq rfl) (hb hby at_184) e16 (by decide) (by decide) ?_
            intro v22 T22 L22 X22 hQ22
            obtain ⟨hv22, N22q, e22⟩ := hQ22
            rw [show own_ti (1 : Int32) (1 : Int32) (1 : Int32) (0 : Int32) = (1 : Int32) from by decide] at hv22
            subst hv22
            have N22 := Fr.app N0 N22q
            show own_Go p.tables e below (T22.setTop (mkF m 187 #[.val (.int p1), .val (.int p2), .val (.int ((p1 &&& (2147483647 : Int32)) - ((p1 &&& (2147483647 : Int32)) / (5 : Int32)) * (5 : Int32))), .val (.ref r1), .val (.int (208 : Int32)), .val (.int (1 : Int32)), .val (.int (0 : Int32)), .val (.int (1 : Int32)), .val (.int (6 : Int32)), .val (.int (1 : Int32))] [(.int (1 : Int32))])) _
            refine own_iload X22 hx hby at_187 (pc' := 189) rfl rfl ?_
            refine own_icmpNo X22 hx hby at_189 (pc' := 192) rfl (by decide) ?_
            refine own_iconst X22 hx hby at_192 (pc' := 193) rfl (z := (1 : Int32)) (by decide) ?_
            refine own_goto X22 hx hby at_193 (pc' := 197) (by decide) ?_
            exact own_retZ (t := .boolean) X22 hx hret (by simp) (hb hby at_197) hlk (by decide) (by decide) ⟨congrArg (fun z => some (Value.int z)) (own_nar1), N22⟩
        · skip
          refine own_ifNo X16 hx hby at_98 (pc' := 101) rfl (feq hc98).1 ?_
          refine own_iconst X16 hx hby at_101 (pc' := 102) rfl (z := (1 : Int32)) (by decide) ?_
          refine own_goto X16 hx hby at_102 (pc' := 106) (by decide) ?_
          refine own_istore X16 hx hby at_106 (pc' := 108) rfl (Ls' := #[.val (.int p1), .val (.int p2), .val (.int ((p1 &&& (2147483647 : Int32)) - ((p1 &&& (2147483647 : Int32)) / (5 : Int32)) * (5 : Int32))), .val (.ref r1), .val (.int (208 : Int32)), .val (.int (1 : Int32)), .val (.int (1 : Int32)), .unset, .unset, .unset]) rfl ?_
          refine own_iloadN X16 hx hby at_108 (pc' := 109) rfl rfl ?_
          refine own_iconst X16 hx hby at_109 (pc' := 110) rfl (z := (2 : Int32)) (by decide) ?_
          refine own_iand X16 hx hby at_110 (pc' := 111) rfl rfl ?_
          by_cases hc111 : (p2 &&& (2 : Int32)) = (0 : Int32)
          · skip
            refine own_ifNo X16 hx hby at_111 (pc' := 114) rfl (teq hc111).2 ?_
            refine own_iload X16 hx hby at_114 (pc' := 116) rfl rfl ?_
            refine own_ifNo X16 hx hby at_116 (pc' := 119) rfl (by decide) ?_
            refine own_iconst X16 hx hby at_119 (pc' := 120) rfl (z := (1 : Int32)) (by decide) ?_
            refine own_goto X16 hx hby at_120 (pc' := 124) (by decide) ?_
            refine own_istore X16 hx hby at_124 (pc' := 126) rfl (Ls' := #[.val (.int p1), .val (.int p2), .val (.int ((p1 &&& (2147483647 : Int32)) - ((p1 &&& (2147483647 : Int32)) / (5 : Int32)) * (5 : Int32))), .val (.ref r1), .val (.int (208 : Int32)), .val (.int (1 : Int32)), .val (.int (1 : Int32)), .val (.int (1 : Int32)), .unset, .unset]) rfl ?_
            refine own_iload X16 hx hby at_126 (pc' := 128) rfl rfl ?_
            refine own_ifNo X16 hx hby at_128 (pc' := 131) rfl (by decide) ?_
            refine own_iconst X16 hx hby at_131 (pc' := 132) rfl (z := (4 : Int32)) (by decide) ?_
            refine own_goto X16 hx hby at_132 (pc' := 136) (by decide) ?_
            refine own_iload X16 hx hby at_136 (pc' := 138) rfl rfl ?_
            refine own_ifNo X16 hx hby at_138 (pc' := 141) rfl (by decide) ?_
            refine own_iconst X16 hx hby at_141 (pc' := 142) rfl (z := (2 : Int32)) (by decide) ?_
            refine own_goto X16 hx hby at_142 (pc' := 146) (by decide) ?_
            refine own_iadd X16 hx hby at_146 (pc' := 147) rfl (z := (6 : Int32)) (by decide) ?_
            refine own_iload X16 hx hby at_147 (pc' := 149) rfl rfl ?_
            refine own_ifNo X16 hx hby at_149 (pc' := 152) rfl (by decide) ?_
            refine own_iconst X16 hx hby at_152 (pc' := 153) rfl (z := (1 : Int32)) (by decide) ?_
            refine own_goto X16 hx hby at_153 (pc' := 157) (by decide) ?_
            refine own_iadd X16 hx hby at_157 (pc' := 158) rfl (z := (7 : Int32)) (by decide) ?_
            refine own_istore X16 hx hby at_158 (pc' := 160) rfl (Ls' := #[.val (.int p1), .val (.int p2), .val (.int ((p1 &&& (2147483647 : Int32)) - ((p1 &&& (2147483647 : Int32)) / (5 : Int32)) * (5 : Int32))), .val (.ref r1), .val (.int (208 : Int32)), .val (.int (1 : Int32)), .val (.int (1 : Int32)), .val (.int (1 : Int32)), .val (.int (7 : Int32)), .unset]) rfl ?_
            refine own_iload X16 hx hby at_160 (pc' := 162) rfl rfl ?_
            refine own_iload X16 hx hby at_162 (pc' := 164) rfl rfl ?_
            refine own_ishr X16 hx hby at_164 (pc' := 165) rfl (z := (1 : Int32)) (by decide) ?_
            refine own_iconst X16 hx hby at_165 (pc' := 166) rfl (z := (1 : Int32)) (by decide) ?_
            refine own_iand X16 hx hby at_166 (pc' := 167) rfl (z := (1 : Int32)) (by decide) ?_
            refine own_ifNo X16 hx hby at_167 (pc' := 170) rfl (by decide) ?_
            refine own_iconst X16 hx hby at_170 (pc' := 171) rfl (z := (1 : Int32)) (by decide) ?_
            refine own_goto X16 hx hby at_171 (pc' := 175) (by decide) ?_
            refine own_istore X16 hx hby at_175 (pc' := 177) rfl (Ls' := #[.val (.int p1), .val (.int p2), .val (.int ((p1 &&& (2147483647 : Int32)) - ((p1 &&& (2147483647 : Int32)) / (5 : Int32)) * (5 : Int32))), .val (.ref r1), .val (.int (208 : Int32)), .val (.int (1 : Int32)), .val (.int (1 : Int32)), .val (.int (1 : Int32)), .val (.int (7 : Int32)), .val (.int (1 : Int32))]) rfl ?_
            refine own_aloadN X16 hx hby at_177 (pc' := 178) rfl rfl rfl ?_
            refine own_iload X16 hx hby at_178 (pc' := 180) rfl rfl ?_
            refine own_iload X16 hx hby at_180 (pc' := 182) rfl rfl ?_
            refine own_iload X16 hx hby at_182 (pc' := 184) rfl rfl ?_
            refine own_callV X16 hx hZ (rm_t1 l Z a0 hw [] r1 (1 : Int32) (1 : Int32) (1 : Int32) h0 n0 F1 E1) hown (hw _ (List.mem_of_getElem? (i := 4) rfl)) (hw _ (List.mem_of_getElem? (i := 5) rfl)) (hw _ (List.mem_of_getElem? (i := 7) rfl)) (hw _ (List.mem_of_getElem? (i := 6) rfl)) (hw _ (List.mem_of_getElem? (i := 8) rfl)) (hw _ (List.mem_of_getElem? (i := 2) rfl)) (by decide) E1 (W := 0) (by decide) (by decide) (by rw [hml]; rfl) (argsL := [(.int (1 : Int32)), (.int (1 : Int32)), (.int (1 : Int32))]) (rest := []) rfl (lenOf own_pd1 rfl) rfl (Nat.le_of_eq rfl) (hb hby at_184) e16 (by decide) (by decide) ?_
            intro v23 T23 L23 X23 hQ23
            obtain ⟨hv23, N23q, e23⟩ := hQ23
            rw [show own_ti (1 : Int32) (1 : Int32) (1 : Int32) (1 : Int32) = (1 : Int32) from by decide] at hv23
            subst hv23
            have N23 := Fr.app N0 N23q
            show own_Go p.tables e below (T23.setTop (mkF m 187 #[.val (.int p1), .val (.int p2), .val (.int ((p1 &&& (2147483647 : Int32)) - ((p1 &&& (2147483647 : Int32)) / (5 : Int32)) * (5 : Int32))), .val (.ref r1), .val (.int (208 : Int32)), .val (.int (1 : Int32)), .val (.int (1 : Int32)), .val (.int (1 : Int32)), .val (.int (7 : Int32)), .val (.int (1 : Int32))] [(.int (1 : Int32))])) _
            refine own_iload X23 hx hby at_187 (pc' := 189) rfl rfl ?_
            refine own_icmpNo X23 hx hby at_189 (pc' := 192) rfl (by decide) ?_
            refine own_iconst X23 hx hby at_192 (pc' := 193) rfl (z := (1 : Int32)) (by decide) ?_
            refine own_goto X23 hx hby at_193 (pc' := 197) (by decide) ?_
            exact own_retZ (t := .boolean) X23 hx hret (by simp) (hb hby at_197) hlk (by decide) (by decide) ⟨congrArg (fun z => some (Value.int z)) (own_nar1), N23⟩
          · skip
            refine own_ifYes X16 hx hby at_111 (pc' := 119) (by decide) (feq hc111).2 ?_
            refine own_iconst X16 hx hby at_119 (pc' := 120) rfl (z := (1 : Int32)) (by decide) ?_
            refine own_goto X16 hx hby at_120 (pc' := 124) (by decide) ?_
            refine own_istore X16 hx hby at_124 (pc' := 126) rfl (Ls' := #[.val (.int p1), .val (.int p2), .val (.int ((p1 &&& (2147483647 : Int32)) - ((p1 &&& (2147483647 : Int32)) / (5 : Int32)) * (5 : Int32))), .val (.ref r1), .val (.int (208 : Int32)), .val (.int (1 : Int32)), .val (.int (1 : Int32)), .val (.int (1 : Int32)), .unset, .unset]) rfl ?_
            refine own_iload X16 hx hby at_126 (pc' := 128) rfl rfl ?_
            refine own_ifNo X16 hx hby at_128 (pc' := 131) rfl (by decide) ?_
            refine own_iconst X16 hx hby at_131 (pc' := 132) rfl (z := (4 : Int32)) (by decide) ?_
            refine own_goto X16 hx hby at_132 (pc' := 136) (by decide) ?_
            refine own_iload X16 hx hby at_136 (pc' := 138) rfl rfl ?_
            refine own_ifNo X16 hx hby at_138 (pc' := 141) rfl (by decide) ?_
            refine own_iconst X16 hx hby at_141 (pc' := 142) rfl (z := (2 : Int32)) (by decide) ?_
            refine own_goto X16 hx hby at_142 (pc' := 146) (by decide) ?_
            refine own_iadd X16 hx hby at_146 (pc' := 147) rfl (z := (6 : Int32)) (by decide) ?_
            refine own_iload X16 hx hby at_147 (pc' := 149) rfl rfl ?_
            refine own_ifNo X16 hx hby at_149 (pc' := 152) rfl (by decide) ?_
            refine own_iconst X16 hx hby at_152 (pc' := 153) rfl (z := (1 : Int32)) (by decide) ?_
            refine own_goto X16 hx hby at_153 (pc' := 157) (by decide) ?_
            refine own_iadd X16 hx hby at_157 (pc' := 158) rfl (z := (7 : Int32)) (by decide) ?_
            refine own_istore X16 hx hby at_158 (pc' := 160) rfl (Ls' := #[.val (.int p1), .val (.int p2), .val (.int ((p1 &&& (2147483647 : Int32)) - ((p1 &&& (2147483647 : Int32)) / (5 : Int32)) * (5 : Int32))), .val (.ref r1), .val (.int (208 : Int32)), .val (.int (1 : Int32)), .val (.int (1 : Int32)), .val (.int (1 : Int32)), .val (.int (7 : Int32)), .unset]) rfl ?_
            refine own_iload X16 hx hby at_160 (pc' := 162) rfl rfl ?_
            refine own_iload X16 hx hby at_162 (pc' := 164) rfl rfl ?_
            refine own_ishr X16 hx hby at_164 (pc' := 165) rfl (z := (1 : Int32)) (by decide) ?_
            refine own_iconst X16 hx hby at_165 (pc' := 166) rfl (z := (1 : Int32)) (by decide) ?_
            refine own_iand X16 hx hby at_166 (pc' := 167) rfl (z := (1 : Int32)) (by decide) ?_
            refine own_ifNo X16 hx hby at_167 (pc' := 170) rfl (by decide) ?_
            refine own_iconst X16 hx hby at_170 (pc' := 171) rfl (z := (1 : Int32)) (by decide) ?_
            refine own_goto X16 hx hby at_171 (pc' := 175) (by decide) ?_
            refine own_istore X16 hx hby at_175 (pc' := 177) rfl (Ls' := #[.val (.int p1), .val (.int p2), .val (.int ((p1 &&& (2147483647 : Int32)) - ((p1 &&& (2147483647 : Int32)) / (5 : Int32)) * (5 : Int32))), .val (.ref r1), .val (.int (208 : Int32)), .val (.int (1 : Int32)), .val (.int (1 : Int32)), .val (.int (1 : Int32)), .val (.int (7 : Int32)), .val (.int (1 : Int32))]) rfl ?_
            refine own_aloadN X16 hx hby at_177 (pc' := 178) rfl rfl rfl ?_
            refine own_iload X16 hx hby at_178 (pc' := 180) rfl rfl ?_
            refine own_iload X16 hx hby at_180 (pc' := 182) rfl rfl ?_
            refine own_iload X16 hx hby at_182 (pc' := 184) rfl rfl ?_
            refine own_callV X16 hx hZ (rm_t1 l Z a0 hw [] r1 (1 : Int32) (1 : Int32) (1 : Int32) h0 n0 F1 E1) hown (hw _ (List.mem_of_getElem? (i := 4) rfl)) (hw _ (List.mem_of_getElem? (i := 5) rfl)) (hw _ (List.mem_of_getElem? (i := 7) rfl)) (hw _ (List.mem_of_getElem? (i := 6) rfl)) (hw _ (List.mem_of_getElem? (i := 8) rfl)) (hw _ (List.mem_of_getElem? (i := 2) rfl)) (by decide) E1 (W := 0) (by decide) (by decide) (by rw [hml]; rfl) (argsL := [(.int (1 : Int32)), (.int (1 : Int32)), (.int (1 : Int32))]) (rest := []) rfl (lenOf own_pd1 rfl) rfl (Nat.le_of_eq rfl) (hb hby at_184) e16 (by decide) (by decide) ?_
            intro v24 T24 L24 X24 hQ24
            obtain ⟨hv24, N24q, e24⟩ := hQ24
            rw [show own_ti (1 : Int32) (1 : Int32) (1 : Int32) (1 : Int32) = (1 : Int32) from by decide] at hv24
            subst hv24
            have N24 := Fr.app N0 N24q
            show own_Go p.tables e below (T24.setTop (mkF m 187 #[.val (.int p1), .val (.int p2), .val (.int ((p1 &&& (2147483647 : Int32)) - ((p1 &&& (2147483647 : Int32)) / (5 : Int32)) * (5 : Int32))), .val (.ref r1), .val (.int (208 : Int32)), .val (.int (1 : Int32)), .val (.int (1 : Int32)), .val (.int (1 : Int32)), .val (.int (7 : Int32)), .val (.int (1 : Int32))] [(.int (1 : Int32))])) _
            refine own_iload X24 hx hby at_187 (pc' := 189) rfl rfl ?_
            refine own_icmpNo X24 hx hby at_189 (pc' := 192) rfl (by decide) ?_
            refine own_iconst X24 hx hby at_192 (pc' := 193) rfl (z := (1 : Int32)) (by decide) ?_
            refine own_goto X24 hx hby at_193 (pc' := 197) (by decide) ?_
            exact own_retZ (t := .boolean) X24 hx hret (by simp) (hb hby at_197) hlk (by decide) (by decide) ⟨congrArg (fun z => some (Value.int z)) (own_nar1), N24⟩
    · skip
      refine own_icmpYes X0 hx hby at_25 (pc' := 40) (by decide) (feq hc25).2 ?_
      refine own_iloadN X0 hx hby at_40 (pc' := 41) rfl rfl ?_
      refine own_iconst X0 hx hby at_41 (pc' := 42) rfl (z := (2 : Int32)) (by decide) ?_
      by_cases hc42 : ((p1 &&& (2147483647 : Int32)) - ((p1 &&& (2147483647 : Int32)) / (5 : Int32)) * (5 : Int32)) = (2 : Int32)
      · skip
        refine own_icmpNo X0 hx hby at_42 (pc' := 45) rfl (teq hc42).2 ?_
        refine own_getS X0 hx hby at_45 (pc' := 48) rfl hZ hown (host := "") (Or.inl (hw _ (List.mem_of_getElem? (i := 24) rfl))) Via.refl e0 S2 ?_
        intro T25 X25 e25
        refine own_astoreN X25 hx hby at_48 (pc' := 49) rfl rfl (Ls' := #[.val (.int p1), .val (.int p2), .val (.int ((p1 &&& (2147483647 : Int32)) - ((p1 &&& (2147483647 : Int32)) / (5 : Int32)) * (5 : Int32))), .val (.ref r2), .unset, .unset, .unset, .unset, .unset, .unset]) rfl ?_
        refine own_sipush X25 hx hby at_49 (pc' := 52) rfl (z := (136 : Int32)) (by decide) ?_
        refine own_istore X25 hx hby at_52 (pc' := 54) rfl (Ls' := #[.val (.int p1), .val (.int p2), .val (.int ((p1 &&& (2147483647 : Int32)) - ((p1 &&& (2147483647 : Int32)) / (5 : Int32)) * (5 : Int32))), .val (.ref r2), .val (.int (136 : Int32)), .unset, .unset, .unset, .unset, .unset]) rfl ?_
        refine own_goto X25 hx hby at_54 (pc' := 82) (by decide) ?_
        refine own_iloadN X25 hx hby at_82 (pc' := 83) rfl rfl ?_
        refine own_iconst X25 hx hby at_83 (pc' := 84) rfl (z := (4 : Int32)) (by decide) ?_
        refine own_iand X25 hx hby at_84 (pc' := 85) rfl rfl ?_
        by_cases hc85 : (p2 &&& (4 : Int32)) = (0 : Int32)
        · skip
          refine own_ifYes X25 hx hby at_85 (pc' := 92) (by decide) (teq hc85).1 ?_
          refine own_iconst X25 hx hby at_92 (pc' := 93) rfl (z := (0 : Int32)) (by decide) ?_
          refine own_istore X25 hx hby at_93 (pc' := 95) rfl (Ls' := #[.val (.int p1), .val (.int p2), .val (.int ((p1 &&& (2147483647 : Int32)) - ((p1 &&& (2147483647 : Int32)) / (5 : Int32)) * (5 : Int32))), .val (.ref r2), .val (.int (136 : Int32)), .val (.int (0 : Int32)), .unset, .unset, .unset, .unset]) rfl ?_
          refine own_iloadN X25 hx hby at_95 (pc' := 96) rfl rfl ?_
          refine own_iconst X25 hx hby at_96 (pc' := 97) rfl (z := (1 : Int32)) (by decide) ?_
          refine own_iand X25 hx hby at_97 (pc' := 98) rfl rfl ?_
          by_cases hc98 : (p2 &&& (1 : Int32)) = (0 : Int32)
          · skip
            refine own_ifYes X25 hx hby at_98 (pc' := 105) (by decide) (teq hc98).1 ?_
            refine own_iconst X25 hx hby at_105 (pc' := 106) rfl (z := (0 : Int32)) (by decide) ?_
            refine own_istore X25 hx hby at_106 (pc' := 108) rfl (Ls' := #[.val (.int p1), .val (.int p2), .val (.int ((p1 &&& (2147483647 : Int32)) - ((p1 &&& (2147483647 : Int32)) / (5 : Int32)) * (5 : Int32))), .val (.ref r2), .val (.int (136 : Int32)), .val (.int (0 : Int32)), .val (.int (0 : Int32)), .unset, .unset, .unset]) rfl ?_
            refine own_iloadN X25 hx hby at_108 (pc' := 109) rfl rfl ?_
            refine own_iconst X25 hx hby at_109 (pc' := 110) rfl (z := (2 : Int32)) (by decide) ?_
            refine own_iand X25 hx hby at_110 (pc' := 111) rfl rfl ?_
            by_cases hc111 : (p2 &&& (2 : Int32)) = (0 : Int32)
            · skip
              refine own_ifNo X25 hx hby at_111 (pc' := 114) rfl (teq hc111).2 ?_
              refine own_iload X25 hx hby at_114 (pc' := 116) rfl rfl ?_
              refine own_ifYes X25 hx hby at_116 (pc' := 123) (by decide) (by decide) ?_
              refine own_iconst X25 hx hby at_123 (pc' := 124) rfl (z := (0 : Int32)) (by decide) ?_
              refine own_istore X25 hx hby at_124 (pc' := 126) rfl (Ls' := #[.val (.int p1), .val (.int p2), .val (.int ((p1 &&& (2147483647 : Int32)) - ((p1 &&& (2147483647 : Int32)) / (5 : Int32)) * (5 : Int32))), .val (.ref r2), .val (.int (136 : Int32)), .val (.int (0 : Int32)), .val (.int (0 : Int32)), .val (.int (0 : Int32)), .unset, .unset]) rfl ?_
              refine own_iload X25 hx hby at_126 (pc' := 128) rfl rfl ?_
              refine own_ifYes X25 hx hby at_128 (pc' := 135) (by decide) (by decide) ?_
              refine own_iconst X25 hx hby at_135 (pc' := 136) rfl (z := (0 : Int32)) (by decide) ?_
              refine own_iload X25 hx hby at_136 (pc' := 138) rfl rfl ?_
              refine own_ifYes X25 hx hby at_138 (pc' := 145) (by decide) (by decide) ?_
              refine own_iconst X25 hx hby at_145 (pc' := 146) rfl (z := (0 : Int32)) (by decide) ?_
              refine own_iadd X25 hx hby at_146 (pc' := 147) rfl (z := (0 : Int32)) (by decide) ?_
              refine own_iload X25 hx hby at_147 (pc' := 149) rfl rfl ?_
              refine own_ifYes X25 hx hby at_149 (pc' := 156) (by decide) (by decide) ?_
              refine own_iconst X25 hx hby at_156 (pc' := 157) rfl (z := (0 : Int32)) (by decide) ?_
              refine own_iadd X25 hx hby at_157 (pc' := 158) rfl (z := (0 : Int32)) (by decide) ?_
              refine own_istore X25 hx hby at_158 (pc' := 160) rfl (Ls' := #[.val (.int p1), .val (.int p2), .val (.int ((p1 &&& (2147483647 : Int32)) - ((p1 &&& (2147483647 : Int32)) / (5 : Int32)) * (5 : Int32))), .val (.ref r2), .val (.int (136 : Int32)), .val (.int (0 : Int32)), .val (.int (0 : Int32)), .val (.int (0 : Int32)), .val (.int (0 : Int32)), .unset]) rfl ?_
              refine own_iload X25 hx hby at_160 (pc' := 162) rfl rfl ?_
              refine own_iload X25 hx hby at_162 (pc' := 164) rfl rfl ?_
              refine own_ishr X25 hx hby at_164 (pc' := 165) rfl (z := (136 : Int32)) (by decide) ?_
              refine own_iconst X25 hx hby at_165 (pc' := 166) rfl (z := (1 : Int32)) (by decide) ?_
              refine own_iand X25 hx hby at_166 (pc' := 167) rfl (z := (0 : Int32)) (by decide) ?_
              refine own_ifYes X25 hx hby at_167 (pc' := 174) (by decide) (by decide) ?_
              refine own_iconst X25 hx hby at_174 (pc' := 175) rfl (z := (0 : Int32)) (by decide) ?_
              refine own_istore X25 hx hby at_175 (pc' := 177) rfl (Ls' := #[.val (.int p1), .val (.int p2), .val (.int ((p1 &&& (2147483647 : Int32)) - ((p1 &&& (2147483647 : Int32)) / (5 : Int32)) * (5 : Int32))), .val (.ref r2), .val (.int (136 : Int32)), .val (.int (0 : Int32)), .val (.int (0 : Int32)), .val (.int (0 : Int32)), .val (.int (0 : Int32)), .val (.int (0 : Int32))]) rfl ?_
              refine own_aloadN X25 hx hby at_177 (pc' := 178) rfl rfl rfl ?_
              refine own_iload X25 hx hby at_178 (pc' := 180) rfl rfl ?_
              refine own_iload X25 hx hby at_180 (pc' := 182) rfl rfl ?_
              refine own_iload X25 hx hby at_182 (pc' := 184) rfl rfl ?_
              refine own_callV X25 hx hZ (rm_t2 l Z a0 hw [] r2 (0 : Int32) (0 : Int32) (0 : Int32) h0 n0 F2 E2) hown (hw _ (List.mem_of_getElem? (i := 4) rfl)) (hw _ (List.mem_of_getElem? (i := 5) rfl)) (hw _ (List.mem_of_getElem? (i := 7) rfl)) (hw _ (List.mem_of_getElem? (i := 6) rfl)) (hw _ (List.mem_of_getElem? (i := 8) rfl)) (hw _ (List.mem_of_getElem? (i := 2) rfl)) (by decide) E2 (W := 0) (by decide) (by decide) (by rw [hml]; rfl) (argsL := [(.int (0 : Int32)), (.int (0 : Int32)), (.int (0 : Int32))]) (rest := []) rfl (lenOf own_pd1 rfl) rfl (Nat.le_of_eq rfl) (hb hby at_184) e25 (by decide) (by decide) ?_
              intro v26 T26 L26 X26 hQ26
              obtain ⟨hv26, N26q, e26⟩ := hQ26
              rw [show own_ti (2 : Int32) (0 : Int32) (0 : Int32) (0 : Int32) = (0 : Int32) from by decide] at hv26
              subst hv26
              have N26 := Fr.app N0 N26q
              show own_Go p.tables e below (T26.setTop (mkF m 187 #[.val (.int p1), .val (.int p2), .val (.int ((p1 &&& (2147483647 : Int32)) - ((p1 &&& (2147483647 : Int32)) / (5 : Int32)) * (5 : Int32))), .val (.ref r2), .val (.int (136 : Int32)), .val (.int (0 : Int32)), .val (.int (0 : Int32)), .val (.int (0 : Int32)), .val (.int (0 : Int32)), .val (.int (0 : Int32))] [(.int (0 : Int32))])) _
              refine own_iload X26 hx hby at_187 (pc' := 189) rfl rfl ?_
              refine own_icmpNo X26 hx hby at_189 (pc' := 192) rfl (by decide) ?_
              refine own_iconst X26 hx hby at_192 (pc' := 193) rfl (z := (1 : Int32)) (by decide) ?_
              refine own_goto X26 hx hby at_193 (pc' := 197) (by decide) ?_
              exact own_retZ (t := .boolean) X26 hx hret (by simp) (hb hby at_197) hlk (by decide) (by decide) ⟨congrArg (fun z => some (Value.int z)) (own_nar1), N26⟩
            · skip
              refine own_ifYes X25 hx hby at_111 (pc' := 119) (by decide) (feq hc111).2 ?_
              refine own_iconst X25 hx hby at_119 (pc' := 120) rfl (z := (1 : Int32)) (by decide) ?_
              refine own_goto X25 hx hby at_120 (pc' := 124) (by decide) ?_
              refine own_istore X25 hx hby at_124 (pc' := 126) rfl (Ls' := #[.val (.int p1), .val (.int p2), .val (.int ((p1 &&& (2147483647 : Int32)) - ((p1 &&& (2147483647 : Int32)) / (5 : Int32)) * (5 : Int32))), .val (.ref r2), .val (.int (136 : Int32)), .val (.int (0 : Int32)), .val (.int (0 : Int32)), .val (.int (1 : Int32)), .unset, .unset]) rfl ?_
              refine own_iload X25 hx hby at_126 (pc' := 128) rfl rfl ?_
              refine own_ifYes X25 hx hby at_128 (pc' := 135) (by decide) (by decide) ?_
              refine own_iconst X25 hx hby at_135 (pc' := 136) rfl (z := (0 : Int32)) (by decide) ?_
              refine own_iload X25 hx hby at_136 (pc' := 138) rfl rfl ?_
              refine own_ifNo X25 hx hby at_138 (pc' := 141) rfl (by decide) ?_
              refine own_iconst X25 hx hby at_141 (pc' := 142) rfl (z := (2 : Int32)) (by decide) ?_
              refine own_goto X25 hx hby at_142 (pc' := 146) (by decide) ?_
              refine own_iadd X25 hx hby at_146 (pc' := 147) rfl (z := (2 : Int32)) (by decide) ?_
              refine own_iload X25 hx hby at_147 (pc' := 149) rfl rfl ?_
              refine own_ifYes X25 hx hby at_149 (pc' := 156) (by decide) (by decide) ?_
              refine own_iconst X25 hx hby at_156 (pc' := 157) rfl (z := (0 : Int32)) (by decide) ?_
              refine own_iadd X25 hx hby at_157 (pc' := 158) rfl (z := (2 : Int32)) (by decide) ?_
              refine own_istore X25 hx hby at_158 (pc' := 160) rfl (Ls' := #[.val (.int p1), .val (.int p2), .val (.int ((p1 &&& (2147483647 : Int32)) - ((p1 &&& (2147483647 : Int32)) / (5 : Int32)) * (5 : Int32))), .val (.ref r2), .val (.int (136 : Int32)), .val (.int (0 : Int32)), .val (.int (0 : Int32)), .val (.int (1 : Int32)), .val (.int (2 : Int32)), .unset]) rfl ?_
              refine own_iload X25 hx hby at_160 (pc' := 162) rfl rfl ?_
              refine own_iload X25 hx hby at_162 (pc' := 164) rfl rfl ?_
              refine own_ishr X25 hx hby at_164 (pc' := 165) rfl (z := (34 : Int32)) (by decide) ?_
              refine own_iconst X25 hx hby at_165 (pc' := 166) rfl (z := (1 : Int32)) (by decide) ?_
              refine own_iand X25 hx hby at_166 (pc' := 167) rfl (z := (0 : Int32)) (by decide) ?_
              refine own_ifYes X25 hx hby at_167 (pc' := 174) (by decide) (by decide) ?_
              refine own_iconst X25 hx hby at_174 (pc' := 175) rfl (z := (0 : Int32)) (by decide) ?_
              refine own_istore X25 hx hby at_175 (pc' := 177) rfl (Ls' := #[.val (.int p1), .val (.int p2), .val (.int ((p1 &&& (2147483647 : Int32)) - ((p1 &&& (2147483647 : Int32)) / (5 : Int32)) * (5 : Int32))), .val (.ref r2), .val (.int (136 : Int32)), .val (.int (0 : Int32)), .val (.int (0 : Int32)), .val (.int (1 : Int32)), .val (.int (2 : Int32)), .val (.int (0 : Int32))]) rfl ?_
              refine own_aloadN X25 hx hby at_177 (pc' := 178) rfl rfl rfl ?_
              refine own_iload X25 hx hby at_178 (pc' := 180) rfl rfl ?_
              refine own_iload X25 hx hby at_180 (pc' := 182) rfl rfl ?_
              refine own_iload X25 hx hby at_182 (pc' := 184) rfl rfl ?_
              refine own_callV X25 hx hZ (rm_t2 l Z a0 hw [] r2 (0 : Int32) (1 : Int32) (0 : Int32) h0 n0 F2 E2) hown (hw _ (List.mem_of_getElem? (i := 4) rfl)) (hw _ (List.mem_of_getElem? (i := 5) rfl)) (hw _ (List.mem_of_getElem? (i := 7) rfl)) (hw _ (List.mem_of_getElem? (i := 6) rfl)) (hw _ (List.mem_of_getElem? (i := 8) rfl)) (hw _ (List.mem_of_getElem? (i := 2) rfl)) (by decide) E2 (W := 0) (by decide) (by decide) (by rw [hml]; rfl) (argsL := [(.int (0 : Int32)), (.int (1 : Int32)), (.int (0 : Int32))]) (rest := []) rfl (lenOf own_pd1 rfl) rfl (Nat.le_of_eq rfl) (hb hby at_184) e25 (by decide) (by decide) ?_
              intro v27 T27 L27 X27 hQ27
              obtain ⟨hv27, N27q, e27⟩ := hQ27
              rw [show own_ti (2 : Int32) (0 : Int32) (1 : Int32) (0 : Int32) = (0 : Int32) from by decide] at hv27
              subst hv27
              have N27 := Fr.app N0 N27q
              show own_Go p.tables e below (T27.setTop (mkF m 187 #[.val (.int p1), .val (.int p2), .val (.int ((p1 &&& (2147483647 : Int32)) - ((p1 &&& (2147483647 : Int32)) / (5 : Int32)) * (5 : Int32))), .val (.ref r2), .val (.int (136 : Int32)), .val (.int (0 : Int32)), .val (.int (0 : Int32)), .val (.int (1 : Int32)), .val (.int (2 : Int32)), .val (.int (0 : Int32))] [(.int (0 : Int32))])) _
              refine own_iload X27 hx hby at_187 (pc' := 189) rfl rfl ?_
              refine own_icmpNo X27 hx hby at_189 (pc' := 192) rfl (by decide) ?_
              refine own_iconst X27 hx hby at_192 (pc' := 193) rfl (z := (1 : Int32)) (by decide) ?_
              refine own_goto X27 hx hby at_193 (pc' := 197) (by decide) ?_
              exact own_retZ (t := .boolean) X27 hx hret (by simp) (hb hby at_197) hlk (by decide) (by decide) ⟨congrArg (fun z => some (Value.int z)) (own_nar1), N27⟩
          · skip
            refine own_ifNo X25 hx hby at_98 (pc' := 101) rfl (feq hc98).1 ?_
            refine own_iconst X25 hx hby at_101 (pc' := 102) rfl (z := (1 : Int32)) (by decide) ?_
            refine own_goto X25 hx hby at_102 (pc' := 106) (by decide) ?_
            refine own_istore X25 hx hby at_106 (pc' := 108) rfl (Ls' := #[.val (.int p1), .val (.int p2), .val (.int ((p1 &&& (2147483647 : Int32)) - ((p1 &&& (2147483647 : Int32)) / (5 : Int32)) * (5 : Int32))), .val (.ref r2), .val (.int (136 : Int32)), .val (.int (0 : Int32)), .val (.int (1 : Int32)), .unset, .unset, .unset]) rfl ?_
            refine own_iloadN X25 hx hby at_108 (pc' := 109) rfl rfl ?_
            refine own_iconst X25 hx hby at_109 (pc' := 110) rfl (z := (2 : Int32)) (by decide) ?_
            refine own_iand X25 hx hby at_110 (pc' := 111) rfl rfl ?_
            by_cases hc111 : (p2 &&& (2 : Int32)) = (0 : Int32)
            · skip
              refine own_ifNo X25 hx hby at_111 (pc' := 114) rfl (teq hc111).2 ?_
              refine own_iload X25 hx hby at_114 (pc' := 116) rfl rfl ?_
              refine own_ifNo X25 hx hby at_116 (pc' := 119) rfl (by decide) ?_
              refine own_iconst X25 hx hby at_119 (pc' := 120) rfl (z := (1 : Int32)) (by decide) ?_
              refine own_goto X25 hx hby at_120 (pc' := 124) (by decide) ?_
              refine own_istore X25 hx hby at_124 (pc' := 126) rfl (Ls' := #[.val (.int p1), .val (.int p2), .val (.int ((p1 &&& (2147483647 : Int32)) - ((p1 &&& (2147483647 : Int32)) / (5 : Int32)) * (5 : Int32))), .val (.ref r2), .val (.int (136 : Int32)), .val (.int (0 : Int32)), .val (.int (1 : Int32)), .val (.int (1 : Int32)), .unset, .unset]) rfl ?_
              refine own_iload X25 hx hby at_126 (pc' := 128) rfl rfl ?_
              refine own_ifYes X25 hx hby at_128 (pc' := 135) (by decide) (by decide) ?_
              refine own_iconst X25 hx hby at_135 (pc' := 136) rfl (z := (0 : Int32)) (by decide) ?_
              refine own_iload X25 hx hby at_136 (pc' := 138) rfl rfl ?_
              refine own_ifNo X25 hx hby at_138 (pc' := 141) rfl (by decide) ?_
              refine own_iconst X25 hx hby at_141 (pc' := 142) rfl (z := (2 : Int32)) (by decide) ?_
              refine own_goto X25 hx hby at_142 (pc' := 146) (by decide) ?_
              refine own_iadd X25 hx hby at_146 (pc' := 147) rfl (z := (2 : Int32)) (by decide) ?_
              refine own_iload X25 hx hby at_147 (pc' := 149) rfl rfl ?_
              refine own_ifNo X25 hx hby at_149 (pc' := 152) rfl (by decide) ?_
              refine own_iconst X25 hx hby at_152 (pc' := 153) rfl (z := (1 : Int32)) (by decide) ?_
              refine own_goto X25 hx hby at_153 (pc' := 157) (by decide) ?_
              refine own_iadd X25 hx hby at_157 (pc' := 158) rfl (z := (3 : Int32)) (by decide) ?_
              refine own_istore X25 hx hby at_158 (pc' := 160) rfl (Ls' := #[.val (.int p1), .val (.int p2), .val (.int ((p1 &&& (2147483647 : Int32)) - ((p1 &&& (2147483647 : Int32)) / (5 : Int32)) * (5 : Int32))), .val (.ref r2), .val (.int (136 : Int32)), .val (.int (0 : Int32)), .val (.int (1 : Int32)), .val (.int (1 : Int32)), .val (.int (3 : Int32)), .unset]) rfl ?_
              refine own_iload X25 hx hby at_160 (pc' := 162) rfl rfl ?_
              refine own_iload X25 hx hby at_162 (pc' := 164) rfl rfl ?_
              refine own_ishr X25 hx hby at_164 (pc' := 165) rfl (z := (17 : Int32)) (by decide) ?_
              refine own_iconst X25 hx hby at_165 (pc' := 166) rfl (z := (1 : Int32)) (by decide) ?_
              refine own_iand X25 hx hby at_166 (pc' := 167) rfl (z := (1 : Int32)) (by decide) ?_
              refine own_ifNo X25 hx hby at_167 (pc' := 170) rfl (by decide) ?_
              refine own_iconst X25 hx hby at_170 (pc' := 171) rfl (z := (1 : Int32)) (by decide) ?_
              refine own_goto X25 hx hby at_171 (pc' := 175) (by decide) ?_
              refine own_istore X25 hx hby at_175 (pc' := 177) rfl (Ls' := #[.val (.int p1), .val (.int p2), .val (.int ((p1 &&& (2147483647 : Int32)) - ((p1 &&& (2147483647 : Int32)) / (5 : Int32)) * (5 : Int32))), .val (.ref r2), .val (.int (136 : Int32)), .val (.int (0 : Int32)), .val (.int (1 : Int32)), .val (.int (1 : Int32)), .val (.int (3 : Int32)), .val (.int (1 : Int32))]) rfl ?_
              refine own_aloadN X25 hx hby at_177 (pc' := 178) rfl rfl rfl ?_
              refine own_iload X25 hx hby at_178 (pc' := 180) rfl rfl ?_
              refine own_iload X25 hx hby at_180 (pc' := 182) rfl rfl ?_
              refine own_iload X25 hx hby at_182 (pc' := 184) rfl rfl ?_
              refine own_callV X25 hx hZ (rm_t2 l Z a0 hw [] r2 (0 : Int32) (1 : Int32) (1 : Int32) h0 n0 F2 E2) hown (hw _ (List.mem_of_getElem? (i := 4) rfl)) (hw _ (List.mem_of_getElem? (i := 5) rfl)) (hw _ (List.mem_of_getElem? (i := 7) rfl)) (hw _ (List.mem_of_getElem? (i := 6) rfl)) (hw _ (List.mem_of_getElem? (i := 8) rfl)) (hw _ (List.mem_of_getElem? (i := 2) rfl)) (by decide) E2 (W := 0) (by decide) (by decide) (by rw [hml]; rfl) (argsL := [(.int (0 : Int32)), (.int (1 : Int32)), (.int (1 : Int32))]) (rest := []) rfl (lenOf own_pd1 rfl) rfl (Nat.le_of_eq rfl) (hb hby at_184) e25 (by decide) (by decide) ?_
              intro v28 T28 L28 X28 hQ28
              obtain ⟨hv28, N28q, e28⟩ := hQ28
              rw [show own_ti (2 : Int32) (0 : Int32) (1 : Int32) (1 : Int32) = (1 : Int32) from by decide] at hv28
              subst hv28
              have N28 := Fr.app N0 N28q
              show own_Go p.tables e below (T28.setTop (mkF m 187 #[.val (.int p1), .val (.int p2), .val (.int ((p1 &&& (2147483647 : Int32)) - ((p1 &&& (2147483647 : Int32)) / (5 : Int32)) * (5 : Int32))), .val (.ref r2), .val (.int (136 : Int32)), .val (.int (0 : Int32)), .val (.int (1 : Int32)), .val (.int (1 : Int32)), .val (.int (3 : Int32)), .val (.int (1 : Int32))] [(.int (1 : Int32))])) _
              refine own_iload X28 hx hby at_187 (pc' := 189) rfl rfl ?_
              refine own_icmpNo X28 hx hby at_189 (pc' := 192) rfl (by decide) ?_
              refine own_iconst X28 hx hby at_192 (pc' := 193) rfl (z := (1 : Int32)) (by decide) ?_
              refine own_goto X28 hx hby at_193 (pc' := 197) (by decide) ?_
              exact own_retZ (t := .boolean) X28 hx hret (by simp) (hb hby at_197) hlk (by decide) (by decide) ⟨congrArg (fun z => some (Value.int z)) (own_nar1), N28⟩
            · skip
              refine own_ifYes X25 hx hby at_111 (pc' := 119) (by decide) (feq hc111).2 ?_
              refine own_iconst X25 hx hby at_119 (pc' := 120) rfl (z := (1 : Int32)) (by decide) ?_
              refine own_goto X25 hx hby at_120 (pc' := 124) (by decide) ?_
              refine own_istore X25 hx hby at_124 (pc' := 126) rfl (Ls' := #[.val (.int p1), .val (.int p2), .val (.int ((p1 &&& (2147483647 : Int32)) - ((p1 &&& (2147483647 : Int32)) / (5 : Int32)) * (5 : Int32))), .val (.ref r2), .val (.int (136 : Int32)), .val (.int (0 : Int32)), .val (.int (1 : Int32)), .val (.int (1 : Int32)), .unset, .unset]) rfl ?_
              refine own_iload X25 hx hby at_126 (pc' := 128) rfl rfl ?_
              refine own_ifYes X25 hx hby at_128 (pc' := 135) (by decide) (by decide) ?_
              refine own_iconst X25 hx hby at_135 (pc' := 136) rfl (z := (0 : Int32)) (by decide) ?_
              refine own_iload X25 hx hby at_136 (pc' := 138) rfl rfl ?_
              refine own_ifNo X25 hx hby at_138 (pc' := 141) rfl (by decide) ?_
              refine own_iconst X25 hx hby at_141 (pc' := 142) rfl (z := (2 : Int32)) (by decide) ?_
              refine own_goto X25 hx hby at_142 (pc' := 146) (by decide) ?_
              refine own_iadd X25 hx hby at_146 (pc' := 147) rfl (z := (2 : Int32)) (by decide) ?_
              refine own_iload X25 hx hby at_147 (pc' := 149) rfl rfl ?_
              refine own_ifNo X25 hx hby at_149 (pc' := 152) rfl (by decide) ?_
              refine own_iconst X25 hx hby at_152 (pc' := 153) rfl (z := (1 : Int32)) (by decide) ?_
              refine own_goto X25 hx hby at_153 (pc' := 157) (by decide) ?_
              refine own_iadd X25 hx hby at_157 (pc' := 158) rfl (z := (3 : Int32)) (by decide) ?_
              refine own_istore X25 hx hby at_158 (pc' := 160) rfl (Ls' := #[.val (.int p1), .val (.int p2), .val (.int ((p1 &&& (2147483647 : Int32)) - ((p1 &&& (2147483647 : Int32)) / (5 : Int32)) * (5 : Int32))), .val (.ref r2), .val (.int (136 : Int32)), .val (.int (0 : Int32)), .val (.int (1 : Int32)), .val (.int (1 : Int32)), .val (.int (3 : Int32)), .unset]) rfl ?_
              refine own_iload X25 hx hby at_160 (pc' := 162) rfl rfl ?_
              refine own_iload X25 hx hby at_162 (pc' := 164) rfl rfl ?_
              refine own_ishr X25 hx hby at_164 (pc' := 165) rfl (z := (17 : Int32)) (by decide) ?_
              refine own_iconst X25 hx hby at_165 (pc' := 166) rfl (z := (1 : Int32)) (by decide) ?_
              refine own_iand X25 hx hby at_166 (pc' := 167) rfl (z := (1 : Int32)) (by decide) ?_
              refine own_ifNo X25 hx hby at_167 (pc' := 170) rfl (by decide) ?_
              refine own_iconst X25 hx hby at_170 (pc' := 171) rfl (z := (1 : Int32)) (by decide) ?_
              refine own_goto X25 hx hby at_171 (pc' := 175) (by decide) ?_
              refine own_istore X25 hx hby at_175 (pc' := 177) rfl (Ls' := #[.val (.int p1), .val (.int p2), .val (.int ((p1 &&& (2147483647 : Int32)) - ((p1 &&& (2147483647 : Int32)) / (5 : Int32)) * (5 : Int32))), .val (.ref r2), .val (.int (136 : Int32)), .val (.int (0 : Int32)), .val (.int (1 : Int32)), .val (.int (1 : Int32)), .val (.int (3 : Int32)), .val (.int (1 : Int32))]) rfl ?_
              refine own_aloadN X25 hx hby at_177 (pc' := 178) rfl rfl rfl ?_
              refine own_iload X25 hx hby at_178 (pc' := 180) rfl rfl ?_
              refine own_iload X25 hx hby at_180 (pc' := 182) rfl rfl ?_
              refine own_iload X25 hx hby at_182 (pc' := 184) rfl rfl ?_
              refine own_callV X25 hx hZ (rm_t2 l Z a0 hw [] r2 (0 : Int32) (1 : Int32) (1 : Int32) h0 n0 F2 E2) hown (hw _ (List.mem_of_getElem? (i := 4) rfl)) (hw _ (List.mem_of_getElem? (i := 5) rfl)) (hw _ (List.mem_of_getElem? (i := 7) rfl)) (hw _ (List.mem_of_getElem? (i := 6) rfl)) (hw _ (List.mem_of_getElem? (i := 8) rfl)) (hw _ (List.mem_of_getElem? (i := 2) rfl)) (by decide) E2 (W := 0) (by decide) (by decide) (by rw [hml]; rfl) (argsL := [(.int (0 : Int32)), (.int (1 : Int32)), (.int (1 : Int32))]) (rest := []) rfl (lenOf own_pd1 rfl) rfl (Nat.le_of_eq rfl) (hb hby at_184) e25 (by decide) (by decide) ?_
              intro v29 T29 L29 X29 hQ29
              obtain ⟨hv29, N29q, e29⟩ := hQ29
              rw [show own_ti (2 : Int32) (0 : Int32) (1 : Int32) (1 : Int32) = (1 : Int32) from by decide] at hv29
              subst hv29
              have N29 := Fr.app N0 N29q
              show own_Go p.tables e below (T29.setTop (mkF m 187 #[.val (.int p1), .val (.int p2), .val (.int ((p1 &&& (2147483647 : Int32)) - ((p1 &&& (2147483647 : Int32)) / (5 : Int32)) * (5 : Int32))), .val (.ref r2), .val (.int (136 : Int32)), .val (.int (0 : Int32)), .val (.int (1 : Int32)), .val (.int (1 : Int32)), .val (.int (3 : Int32)), .val (.int (1 : Int32))] [(.int (1 : Int32))])) _
              refine own_iload X29 hx hby at_187 (pc' := 189) rfl rfl ?_
              refine own_icmpNo X29 hx hby at_189 (pc' := 192) rfl (by decide) ?_
              refine own_iconst X29 hx hby at_192 (pc' := 193) rfl (z := (1 : Int32)) (by decide) ?_
              refine own_goto X29 hx hby at_193 (pc' := 197) (by decide) ?_
              exact own_retZ (t := .boolean) X29 hx hret (by simp) (hb hby at_197) hlk (by decide) (by decide) ⟨congrArg (fun z => some (Value.int z)) (own_nar1), N29⟩
        · skip
          refine own_ifNo X25 hx hby at_85 (pc' := 88) rfl (feq hc85).1 ?_
          refine own_iconst X25 hx hby at_88 (pc' := 89) rfl (z := (1 : Int32)) (by decide) ?_
          refine own_goto X25 hx hby at_89 (pc' := 93) (by decide) ?_
          refine own_istore X25 hx hby at_93 (pc' := 95) rfl (Ls' := #[.val (.int p1), .val (.int p2), .val (.int ((p1 &&& (2147483647 : Int32)) - ((p1 &&& (2147483647 : Int32)) / (5 : Int32)) * (5 : Int32))), .val (.ref r2), .val (.int (136 : Int32)), .val (.int (1 : Int32)), .unset, .unset, .unset, .unset]) rfl ?_
          refine own_iloadN X25 hx hby at_95 (pc' := 96) rfl rfl ?_
          refine own_iconst X25 hx hby at_96 (pc' := 97) rfl (z := (1 : Int32)) (by decide) ?_
          refine own_iand X25 hx hby at_97 (pc' := 98) rfl rfl ?_
          by_cases hc98 : (p2 &&& (1 : Int32)) = (0 : Int32)
          · skip
            refine own_ifYes X25 hx hby at_98 (pc' := 105) (by decide) (teq hc98).1 ?_
            refine own_iconst X25 hx hby at_105 (pc' := 106) rfl (z := (0 : Int32)) (by decide) ?_
            refine own_istore X25 hx hby at_106 (pc' := 108) rfl (Ls' := #[.val (.int p1), .val (.int p2), .val (.int ((p1 &&& (2147483647 : Int32)) - ((p1 &&& (2147483647 : Int32)) / (5 : Int32)) * (5 : Int32))), .val (.ref r2), .val (.int (136 : Int32)), .val (.int (1 : Int32)), .val (.int (0 : Int32)), .unset, .unset, .unset]) rfl ?_
            refine own_iloadN X25 hx hby at_108 (pc' := 109) rfl rfl ?_
            refine own_iconst X25 hx hby at_109 (pc' := 110) rfl (z := (2 : Int32)) (by decide) ?_
            refine own_iand X25 hx hby at_110 (pc' := 111) rfl rfl ?_
            by_cases hc111 : (p2 &&& (2 : Int32)) = (0 : Int32)
            · skip
              refine own_ifNo X25 hx hby at_111 (pc' := 114) rfl (teq hc111).2 ?_
              refine own_iload X25 hx hby at_114 (pc' := 116) rfl rfl ?_
              refine own_ifYes X25 hx hby at_116 (pc' := 123) (by decide) (by decide) ?_
              refine own_iconst X25 hx hby at_123 (pc' := 124) rfl (z := (0 : Int32)) (by decide) ?_
              refine own_istore X25 hx hby at_124 (pc' := 126) rfl (Ls' := #[.val (.int p1), .val (.int p2), .val (.int ((p1 &&& (2147483647 : Int32)) - ((p1 &&& (2147483647 : Int32)) / (5 : Int32)) * (5 : Int32))), .val (.ref r2), .val (.int (136 : Int32)), .val (.int (1 : Int32)), .val (.int (0 : Int32)), .val (.int (0 : Int32)), .unset, .unset]) rfl ?_
              refine own_iload X25 hx hby at_126 (pc' := 128) rfl rfl ?_
              refine own_ifNo X25 hx hby at_128 (pc' := 131) rfl (by decide) ?_
              refine own_iconst X25 hx hby at_131 (pc' := 132) rfl (z := (4 : Int32)) (by decide) ?_
              refine own_goto X25 hx hby at_132 (pc' := 136) (by decide) ?_
              refine own_iload X25 hx hby at_136 (pc' := 138) rfl rfl ?_
              refine own_ifYes X25 hx hby at_138 (pc' := 145) (by decide) (by decide) ?_
              refine own_iconst X25 hx hby at_145 (pc' := 146) rfl (z := (0 : Int32)) (by decide) ?_
              refine own_iadd X25 hx hby at_146 (pc' := 147) rfl (z := (4 : Int32)) (by decide) ?_
              refine own_iload X25 hx hby at_147 (pc' := 149) rfl rfl ?_
              refine own_ifYes X25 hx hby at_149 (pc' := 156) (by decide) (by decide) ?_
              refine own_iconst X25 hx hby at_156 (pc' := 157) rfl (z := (0 : Int32)) (by decide) ?_
              refine own_iadd X25 hx hby at_157 (pc' := 158) rfl (z := (4 : Int32)) (by decide) ?_
              refine own_istore X25 hx hby at_158 (pc' := 160) rfl (Ls' := #[.val (.int p1), .val (.int p2), .val (.int ((p1 &&& (2147483647 : Int32)) - ((p1 &&& (2147483647 : Int32)) / (5 : Int32)) * (5 : Int32))), .val (.ref r2), .val (.int (136 : Int32)), .val (.int (1 : Int32)), .val (.int (0 : Int32)), .val (.int (0 : Int32)), .val (.int (4 : Int32)), .unset]) rfl ?_
              refine own_iload X25 hx hby at_160 (pc' := 162) rfl rfl ?_
              refine own_iload X25 hx hby at_162 (pc' := 164) rfl rfl ?_
              refine own_ishr X25 hx hby at_164 (pc' := 165) rfl (z := (8 : Int32)) (by decide) ?_
              refine own_iconst X25 hx hby at_165 (pc' := 166) rfl (z := (1 : Int32)) (by decide) ?_
              refine own_iand X25 hx hby at_166 (pc' := 167) rfl (z := (0 : Int32)) (by decide) ?_
              refine own_ifYes X25 hx hby at_167 (pc' := 174) (by decide) (by decide) ?_
              refine own_iconst X25 hx hby at_174 (pc' := 175) rfl (z := (0 : Int32)) (by decide) ?_
              refine own_istore X25 hx hby at_175 (pc' := 177) rfl (Ls' := #[.val (.int p1), .val (.int p2), .val (.int ((p1 &&& (2147483647 : Int32)) - ((p1 &&& (2147483647 : Int32)) / (5 : Int32)) * (5 : Int32))), .val (.ref r2), .val (.int (136 : Int32)), .val (.int (1 : Int32)), .val (.int (0 : Int32)), .val (.int (0 : Int32)), .val (.int (4 : Int32)), .val (.int (0 : Int32))]) rfl ?_
              refine own_aloadN X25 hx hby at_177 (pc' := 178) rfl rfl rfl ?_
              refine own_iload X25 hx hby at_178 (pc' := 180) rfl rfl ?_
              refine own_iload X25 hx hby at_180 (pc' := 182) rfl rfl ?_
              refine own_iload X25 hx hby at_182 (pc' := 184) rfl rfl ?_
              refine own_callV X25 hx hZ (rm_t2 l Z a0 hw [] r2 (1 : Int32) (0 : Int32) (0 : Int32) h0 n0 F2 E2) hown (hw _ (List.mem_of_getElem? (i := 4) rfl)) (hw _ (List.mem_of_getElem? (i := 5) rfl)) (hw _ (List.mem_of_getElem? (i := 7) rfl)) (hw _ (List.mem_of_getElem? (i := 6) rfl)) (hw _ (List.mem_of_getElem? (i := 8) rfl)) (hw _ (List.mem_of_getElem? (i := 2) rfl)) (by decide) E2 (W := 0) (by decide) (by decide) (by rw [hml]; rfl) (argsL := [(.int (1 : Int32)), (.int (0 : Int32)), (.int (0 : Int32))]) (rest := []) rfl (lenOf own_pd1 rfl) rfl (Nat.le_of_eq rfl) (hb hby at_184) e25 (by decide) (by decide) ?_
              intro v30 T30 L30 X30 hQ30
              obtain ⟨hv30, N30q, e30⟩ := hQ30
              rw [show own_ti (2 : Int32) (1 : Int32) (0 : Int32) (0 : Int32) = (0 : Int32) from by decide] at hv30
              subst hv30
              have N30 := Fr.app N0 N30q
              show own_Go p.tables e below (T30.setTop (mkF m 187 #[.val (.int p1), .val (.int p2), .val (.int ((p1 &&& (2147483647 : Int32)) - ((p1 &&& (2147483647 : Int32)) / (5 : Int32)) * (5 : Int32))), .val (.ref r2), .val (.int (136 : Int32)), .val (.int (1 : Int32)), .val (.int (0 : Int32)), .val (.int (0 : Int32)), .val (.int (4 : Int32)), .val (.int (0 : Int32))] [(.int (0 : Int32))])) _
              refine own_iload X30 hx hby at_187 (pc' := 189) rfl rfl ?_
              refine own_icmpNo X30 hx hby at_189 (pc' := 192) rfl (by decide) ?_
              refine own_iconst X30 hx hby at_192 (pc' := 193) rfl (z := (1 : Int32)) (by decide) ?_
              refine own_goto X30 hx hby at_193 (pc' := 197) (by decide) ?_
              exact own_retZ (t := .boolean) X30 hx hret (by simp) (hb hby at_197) hlk (by decide) (by decide) ⟨congrArg (fun z => some (Value.int z)) (own_nar1), N30⟩
            · skip
              refine own_ifYes X25 hx hby at_111 (pc' := 119) (by decide) (feq hc111).2 ?_
              refine own_iconst X25 hx hby at_119 (pc' := 120) rfl (z := (1 : Int32)) (by decide) ?_
              refine own_goto X25 hx hby at_120 (pc' := 124) (by decide) ?_
              refine own_istore X25 hx hby at_124 (pc' := 126) rfl (Ls' := #[.val (.int p1), .val (.int p2), .val (.int ((p1 &&& (2147483647 : Int32)) - ((p1 &&& (2147483647 : Int32)) / (5 : Int32)) * (5 : Int32))), .val (.ref r2), .val (.int (136 : Int32)), .val (.int (1 : Int32)), .val (.int (0 : Int32)), .val (.int (1 : Int32)), .unset, .unset]) rfl ?_
              refine own_iload X25 hx hby at_126 (pc' := 128) rfl rfl ?_
              refine own_ifNo X25 hx hby at_128 (pc' := 131) rfl (by decide) ?_
              refine own_iconst X25 hx hby at_131 (pc' := 132) rfl (z := (4 : Int32)) (by decide) ?_
              refine own_goto X25 hx hby at_132 (pc' := 136) (by decide) ?_
              refine own_iload X25 hx hby at_136 (pc' := 138) rfl rfl ?_
              refine own_ifNo X25 hx hby at_138 (pc' := 141) rfl (by decide) ?_
              refine own_iconst X25 hx hby at_141 (pc' := 142) rfl (z := (2 : Int32)) (by decide) ?_
              refine own_goto X25 hx hby at_142 (pc' := 146) (by decide) ?_
              refine own_iadd X25 hx hby at_146 (pc' := 147) rfl (z := (6 : Int32)) (by decide) ?_
              refine own_iload X25 hx hby at_147 (pc' := 149) rfl rfl ?_
              refine own_ifYes X25 hx hby at_149 (pc' := 156) (by decide) (by decide) ?_
              refine own_iconst X25 hx hby at_156 (pc' := 157) rfl (z := (0 : Int32)) (by decide) ?_
              refine own_iadd X25 hx hby at_157 (pc' := 158) rfl (z := (6 : Int32)) (by decide) ?_
              refine own_istore X25 hx hby at_158 (pc' := 160) rfl (Ls' := #[.val (.int p1), .val (.int p2), .val (.int ((p1 &&& (2147483647 : Int32)) - ((p1 &&& (2147483647 : Int32)) / (5 : Int32)) * (5 : Int32))), .val (.ref r2), .val (.int (136 : Int32)), .val (.int (1 : Int32)), .val (.int (0 : Int32)), .val (.int (1 : Int32)), .val (.int (6 : Int32)), .unset]) rfl ?_
              refine own_iload X25 hx hby at_160 (pc' := 162) rfl rfl ?_
              refine own_iload X25 hx hby at_162 (pc' := 164) rfl rfl ?_
              refine own_ishr X25 hx hby at_164 (pc' := 165) rfl (z := (2 : Int32)) (by decide) ?_
              refine own_iconst X25 hx hby at_165 (pc' := 166) rfl (z := (1 : Int32)) (by decide) ?_
              refine own_iand X25 hx hby at_166 (pc' := 167) rfl (z := (0 : Int32)) (by decide) ?_
              refine own_ifYes X25 hx hby at_167 (pc' := 174) (by decide) (by decide) ?_
              refine own_iconst X25 hx hby at_174 (pc' := 175) rfl (z := (0 : Int32)) (by decide) ?_
              refine own_istore X25 hx hby at_175 (pc' := 177) rfl (Ls' := #[.val (.int p1), .val (.int p2), .val (.int ((p1 &&& (2147483647 : Int32)) - ((p1 &&& (2147483647 : Int32)) / (5 : Int32)) * (5 : Int32))), .val (.ref r2), .val (.int (136 : Int32)), .val (.int (1 : Int32)), .val (.int (0 : Int32)), .val (.int (1 : Int32)), .val (.int (6 : Int32)), .val (.int (0 : Int32))]) rfl ?_
              refine own_aloadN X25 hx hby at_177 (pc' := 178) rfl rfl rfl ?_
              refine own_iload X25 hx hby at_178 (pc' := 180) rfl rfl ?_
              refine own_iload X25 hx hby at_180 (pc' := 182) rfl rfl ?_
              refine own_iload X25 hx hby at_182 (pc' := 184) rfl rfl ?_
              refine own_callV X25 hx hZ (rm_t2 l Z a0 hw [] r2 (1 : Int32) (1 : Int32) (0 : Int32) h0 n0 F2 E2) hown (hw _ (List.mem_of_getElem? (i := 4) rfl)) (hw _ (List.mem_of_getElem? (i := 5) rfl)) (hw _ (List.mem_of_getElem? (i := 7) rfl)) (hw _ (List.mem_of_getElem? (i := 6) rfl)) (hw _ (List.mem_of_getElem? (i := 8) rfl)) (hw _ (List.mem_of_getElem? (i := 2) rfl)) (by decide) E2 (W := 0) (by decide) (by decide) (by rw [hml]; rfl) (argsL := [(.int (1 : Int32)), (.int (1 : Int32)), (.int (0 : Int32))]) (rest := []) rfl (lenOf own_pd1 rfl) rfl (Nat.le_of_eq rfl) (hb hby at_184) e25 (by decide) (by decide) ?_
              intro v31 T31 L31 X31 hQ31
              obtain ⟨hv31, N31q, e31⟩ := hQ31
              rw [show own_ti (2 : Int32) (1 : Int32) (1 : Int32) (0 : Int32) = (0 : Int32) from by decide] at hv31
              subst hv31
              have N31 := Fr.app N0 N31q
              show own_Go p.tables e below (T31.setTop (mkF m 187 #[.val (.int p1), .val (.int p2), .val (.int ((p1 &&& (2147483647 : Int32)) - ((p1 &&& (2147483647 : Int32)) / (5 : Int32)) * (5 : Int32))), .val (.ref r2), .val (.int (136 : Int32)), .val (.int (1 : Int32)), .val (.int (0 : Int32)), .val (.int (1 : Int32)), .val (.int (6 : Int32)), .val (.int (0 : Int32))] [(.int (0 : Int32))])) _
              refine own_iload X31 hx hby at_187 (pc' := 189) rfl rfl ?_
              refine own_icmpNo X31 hx hby at_189 (pc' := 192) rfl (by decide) ?_
              refine own_iconst X31 hx hby at_192 (pc' := 193) rfl (z := (1 : Int32)) (by decide) ?_
              refine own_goto X31 hx hby at_193 (pc' := 197) (by decide) ?_
              exact own_retZ (t := .boolean) X31 hx hret (by simp) (hb hby at_197) hlk (by decide) (by decide) ⟨congrArg (fun z => some (Value.int z)) (own_nar1), N31⟩
          · skip
            refine own_ifNo X25 hx hby at_98 (pc' := 101) rfl (feq hc98).1 ?_
            refine own_iconst X25 hx hby at_101 (pc' := 102) rfl (z := (1 : Int32)) (by decide) ?_
            refine own_goto X25 hx hby at_102 (pc' := 106) (by decide) ?_
            refine own_istore X25 hx hby at_106 (pc' := 108) rfl (Ls' := #[.val (.int p1), .val (.int p2), .val (.int ((p1 &&& (2147483647 : Int32)) - ((p1 &&& (2147483647 : Int32)) / (5 : Int32)) * (5 : Int32))), .val (.ref r2), .val (.int (136 : Int32)), .val (.int (1 : Int32)), .val (.int (1 : Int32)), .unset, .unset, .unset]) rfl ?_
            refine own_iloadN X25 hx hby at_108 (pc' := 109) rfl rfl ?_
            refine own_iconst X25 hx hby at_109 (pc' := 110) rfl (z := (2 : Int32)) (by decide) ?_
            refine own_iand X25 hx hby at_110 (pc' := 111) rfl rfl ?_
            by_cases hc111 : (p2 &&& (2 : Int32)) = (0 : Int32)
            · skip
              refine own_ifNo X25 hx hby at_111 (pc' := 114) rfl (teq hc111).2 ?_
              refine own_iload X25 hx hby at_114 (pc' := 116) rfl rfl ?_
              refine own_ifNo X25 hx hby at_116 (pc' := 119) rfl (by decide) ?_
              refine own_iconst X25 hx hby at_119 (pc' := 120) rfl (z := (1 : Int32)) (by decide) ?_
              refine own_goto X25 hx hby at_120 (pc' := 124) (by decide) ?_
              refine own_istore X25 hx hby at_124 (pc' := 126) rfl (Ls' := #[.val (.int p1), .val (.int p2), .val (.int ((p1 &&& (2147483647 : Int32)) - ((p1 &&& (2147483647 : Int32)) / (5 : Int32)) * (5 : Int32))), .val (.ref r2), .val (.int (136 : Int32)), .val (.int (1 : Int32)), .val (.int (1 : Int32)), .val (.int (1 : Int32)), .unset, .unset]) rfl ?_
              refine own_iload X25 hx hby at_126 (pc' := 128) rfl rfl ?_
              refine own_ifNo X25 hx hby at_128 (pc' := 131) rfl (by decide) ?_
              refine own_iconst X25 hx hby at_131 (pc' := 132) rfl (z := (4 : Int32)) (by decide) ?_
              refine own_goto X25 hx hby at_132 (pc' := 136) (by decide) ?_
              refine own_iload X25 hx hby at_136 (pc' := 138) rfl rfl ?_
              refine own_ifNo X25 hx hby at_138 (pc' := 141) rfl (by decide) ?_
              refine own_iconst X25 hx hby at_141 (pc' := 142) rfl (z := (2 : Int32)) (by decide) ?_
              refine own_goto X25 hx hby at_142 (pc' := 146) (by decide) ?_
              refine own_iadd X25 hx hby at_146 (pc' := 147) rfl (z := (6 : Int32)) (by decide) ?_
              refine own_iload X25 hx hby at_147 (pc' := 149) rfl rfl ?_
              refine own_ifNo X25 hx hby at_149 (pc' := 152) rfl (by decide) ?_
              refine own_iconst X25 hx hby at_152 (pc' := 153) rfl (z := (1 : Int32)) (by decide) ?_
              refine own_goto X25 hx hby at_153 (pc' := 157) (by decide) ?_
              refine own_iadd X25 hx hby at_157 (pc' := 158) rfl (z := (7 : Int32)) (by decide) ?_
              refine own_istore X25 hx hby at_158 (pc' := 160) rfl (Ls' := #[.val (.int p1), .val (.int p2), .val (.int ((p1 &&& (2147483647 : Int32)) - ((p1 &&& (2147483647 : Int32)) / (5 : Int32)) * (5 : Int32))), .val (.ref r2), .val (.int (136 : Int32)), .val (.int (1 : Int32)), .val (.int (1 : Int32)), .val (.int (1 : Int32)), .val (.int (7 : Int32)), .unset]) rfl ?_
              refine own_iload X25 hx hby at_160 (pc' := 162) rfl rfl ?_
              refine own_iload X25 hx hby at_162 (pc' := 164) rfl rfl ?_
              refine own_ishr X25 hx hby at_164 (pc' := 165) rfl (z := (1 : Int32)) (by decide) ?_
              refine own_iconst X25 hx hby at_165 (pc' := 166) rfl (z := (1 : Int32)) (by decide) ?_
              refine own_iand X25 hx hby at_166 (pc' := 167) rfl (z := (1 : Int32)) (by decide) ?_
              refine own_ifNo X25 hx hby at_167 (pc' := 170) rfl (by decide) ?_
              refine own_iconst X25 hx hby at_170 (pc' := 171) rfl (z := (1 : Int32)) (by decide) ?_
              refine own_goto X25 hx hby at_171 (pc' := 175) (by decide) ?_
              refine own_istore X25 hx hby at_175 (pc' := 177) rfl (Ls' := #[.val (.int p1), .val (.int p2), .val (.int ((p1 &&& (2147483647 : Int32)) - ((p1 &&& (2147483647 : Int32)) / (5 : Int32)) * (5 : Int32))), .val (.ref r2), .val (.int (136 : Int32)), .val (.int (1 : Int32)), .val (.int (1 : Int32)), .val (.int (1 : Int32)), .val (.int (7 : Int32)), .val (.int (1 : Int32))]) rfl ?_
              refine own_aloadN X25 hx hby at_177 (pc' := 178) rfl rfl rfl ?_
              refine own_iload X25 hx hby at_178 (pc' := 180) rfl rfl ?_
              refine own_iload X25 hx hby at_180 (pc' := 182) rfl rfl ?_
              refine own_iload X25 hx hby at_182 (pc' := 184) rfl rfl ?_
              refine own_callV X25 hx hZ (rm_t2 l Z a0 hw [] r2 (1 : Int32) (1 : Int32) (1 : Int32) h0 n0 F2 E2) hown (hw _ (List.mem_of_getElem? (i := 4) rfl)) (hw _ (List.mem_of_getElem? (i := 5) rfl)) (hw _ (List.mem_of_getElem? (i := 7) rfl)) (hw _ (List.mem_of_getElem? (i := 6) rfl)) (hw _ (List.mem_of_getElem? (i := 8) rfl)) (hw _ (List.mem_of_getElem? (i := 2) rfl)) (by decide) E2 (W := 0) (by decide) (by decide) (by rw [hml]; rfl) (argsL := [(.int (1 : Int32)), (.int (1 : Int32)), (.int (1 : Int32))]) (rest := []) rfl (lenOf own_pd1 rfl) rfl (Nat.le_of_eq rfl) (hb hby at_184) e25 (by decide) (by decide) ?_
              intro v32 T32 L32 X32 hQ32
              obtain ⟨hv32, N32q, e32⟩ := hQ32
              rw [show own_ti (2 : Int32) (1 : Int32) (1 : Int32) (1 : Int32) = (1 : Int32) from by decide] at hv32
              subst hv32
              have N32 := Fr.app N0 N32q
              show own_Go p.tables e below (T32.setTop (mkF m 187 #[.val (.int p1), .val (.int p2), .val (.int ((p1 &&& (2147483647 : Int32)) - ((p1 &&& (2147483647 : Int32)) / (5 : Int32)) * (5 : Int32))), .val (.ref r2), .val (.int (136 : Int32)), .val (.int (1 : Int32)), .val (.int (1 : Int32)), .val (.int (1 : Int32)), .val (.int (7 : Int32)), .val (.int (1 : Int32))] [(.int (1 : Int32))])) _
              refine own_iload X32 hx hby at_187 (pc' := 189) rfl rfl ?_
              refine own_icmpNo X32 hx hby at_189 (pc' := 192) rfl (by decide) ?_
              refine own_iconst X32 hx hby at_192 (pc' := 193) rfl (z := (1 : Int32)) (by decide) ?_
              refine own_goto X32 hx hby at_193 (pc' := 197) (by decide) ?_
              exact own_retZ (t := .boolean) X32 hx hret (by simp) (hb hby at_197) hlk (by decide) (by decide) ⟨congrArg (fun z => some (Value.int z)) (own_nar1), N32⟩
            · skip
              refine own_ifYes X25 hx hby at_111 (pc' := 119) (by decide) (feq hc111).2 ?_
              refine own_iconst X25 hx hby at_119 (pc' := 120) rfl (z := (1 : Int32)) (by decide) ?_
              refine own_goto X25 hx hby at_120 (pc' := 124) (by decide) ?_
              refine own_istore X25 hx hby at_124 (pc' := 126) rfl (Ls' := #[.val (.int p1), .val (.int p2), .val (.int ((p1 &&& (2147483647 : Int32)) - ((p1 &&& (2147483647 : Int32)) / (5 : Int32)) * (5 : Int32))), .val (.ref r2), .val (.int (136 : Int32)), .val (.int (1 : Int32)), .val (.int (1 : Int32)), .val (.int (1 : Int32)), .unset, .unset]) rfl ?_
              refine own_iload X25 hx hby at_126 (pc' := 128) rfl rfl ?_
              refine own_ifNo X25 hx hby at_128 (pc' := 131) rfl (by decide) ?_
              refine own_iconst X25 hx hby at_131 (pc' := 132) rfl (z := (4 : Int32)) (by decide) ?_
              refine own_goto X25 hx hby at_132 (pc' := 136) (by decide) ?_
              refine own_iload X25 hx hby at_136 (pc' := 138) rfl rfl ?_
              refine own_ifNo X25 hx hby at_138 (pc' := 141) rfl (by decide) ?_
              refine own_iconst X25 hx hby at_141 (pc' := 142) rfl (z := (2 : Int32)) (by decide) ?_
              refine own_goto X25 hx hby at_142 (pc' := 146) (by decide) ?_
              refine own_iadd X25 hx hby at_146 (pc' := 147) rfl (z := (6 : Int32)) (by decide) ?_
              refine own_iload X25 hx hby at_147 (pc' := 149) rfl rfl ?_
              refine own_ifNo X25 hx hby at_149 (pc' := 152) rfl (by decide) ?_
              refine own_iconst X25 hx hby at_152 (pc' := 153) rfl (z := (1 : Int32)) (by decide) ?_
              refine own_goto X25 hx hby at_153 (pc' := 157) (by decide) ?_
              refine own_iadd X25 hx hby at_157 (pc' := 158) rfl (z := (7 : Int32)) (by decide) ?_
              refine own_istore X25 hx hby at_158 (pc' := 160) rfl (Ls' := #[.val (.int p1), .val (.int p2), .val (.int ((p1 &&& (2147483647 : Int32)) - ((p1 &&& (2147483647 : Int32)) / (5 : Int32)) * (5 : Int32))), .val (.ref r2), .val (.int (136 : Int32)), .val (.int (1 : Int32)), .val (.int (1 : Int32)), .val (.int (1 : Int32)), .val (.int (7 : Int32)), .unset]) rfl ?_
              refine own_iload X25 hx hby at_160 (pc' := 162) rfl rfl ?_
              refine own_iload X25 hx hby at_162 (pc' := 164) rfl rfl ?_
              refine own_ishr X25 hx hby at_164 (pc' := 165) rfl (z := (1 : Int32)) (by decide) ?_
              refine own_iconst X25 hx hby at_165 (pc' := 166) rfl (z := (1 : Int32)) (by decide) ?_
              refine own_iand X25 hx hby at_166 (pc' := 167) rfl (z := (1 : Int32)) (by decide) ?_
              refine own_ifNo X25 hx hby at_167 (pc' := 170) rfl (by decide) ?_
              refine own_iconst X25 hx hby at_170 (pc' := 171) rfl (z := (1 : Int32)) (by decide) ?_
              refine own_goto X25 hx hby at_171 (pc' := 175) (by decide) ?_
              refine own_istore X25 hx hby at_175 (pc' := 177) rfl (Ls' := #[.val (.int p1), .val (.int p2), .val (.int ((p1 &&& (2147483647 : Int32)) - ((p1 &&& (2147483647 : Int32)) / (5 : Int32)) * (5 : Int32))), .val (.ref r2), .val (.int (136 : Int32)), .val (.int (1 : Int32)), .val (.int (1 : Int32)), .val (.int (1 : Int32)), .val (.int (7 : Int32)), .val (.int (1 : Int32))]) rfl ?_
              refine own_aloadN X25 hx hby at_177 (pc' := 178) rfl rfl rfl ?_
              refine own_iload X25 hx hby at_178 (pc' := 180) rfl rfl ?_
              refine own_iload X25 hx hby at_180 (pc' := 182) rfl rfl ?_
              refine own_iload X25 hx hby at_182 (pc' := 184) rfl rfl ?_
              refine own_callV X25 hx hZ (rm_t2 l Z a0 hw [] r2 (1 : Int32) (1 : Int32) (1 : Int32) h0 n0 F2 E2) hown (hw _ (List.mem_of_getElem? (i := 4) rfl)) (hw _ (List.mem_of_getElem? (i := 5) rfl)) (hw _ (List.mem_of_getElem? (i := 7) rfl)) (hw _ (List.mem_of_getElem? (i := 6) rfl)) (hw _ (List.mem_of_getElem? (i := 8) rfl)) (hw _ (List.mem_of_getElem? (i := 2) rfl)) (by decide) E2 (W := 0) (by decide) (by decide) (by rw [hml]; rfl) (argsL := [(.int (1 : Int32)), (.int (1 : Int32)), (.int (1 : Int32))]) (rest := []) rfl (lenOf own_pd1 rfl) rfl (Nat.le_of_eq rfl) (hb hby at_184) e25 (by decide) (by decide) ?_
              intro v33 T33 L33 X33 hQ33
              obtain ⟨hv33, N33q, e33⟩ := hQ33
              rw [show own_ti (2 : Int32) (1 : Int32) (1 : Int32) (1 : Int32) = (1 : Int32) from by decide] at hv33
              subst hv33
              have N33 := Fr.app N0 N33q
              show own_Go p.tables e below (T33.setTop (mkF m 187 #[.val (.int p1), .val (.int p2), .val (.int ((p1 &&& (2147483647 : Int32)) - ((p1 &&& (2147483647 : Int32)) / (5 : Int32)) * (5 : Int32))), .val (.ref r2), .val (.int (136 : Int32)), .val (.int (1 : Int32)), .val (.int (1 : Int32)), .val (.int (1 : Int32)), .val (.int (7 : Int32)), .val (.int (1 : Int32))] [(.int (1 : Int32))])) _
              refine own_iload X33 hx hby at_187 (pc' := 189) rfl rfl ?_
              refine own_icmpNo X33 hx hby at_189 (pc' := 192) rfl (by decide) ?_
              refine own_iconst X33 hx hby at_192 (pc' := 193) rfl (z := (1 : Int32)) (by decide) ?_
              refine own_goto X33 hx hby at_193 (pc' := 197) (by decide) ?_
              exact own_retZ (t := .boolean) X33 hx hret (by simp) (hb hby at_197) hlk (by decide) (by decide) ⟨congrArg (fun z => some (Value.int z)) (own_nar1), N33⟩
      · skip
        refine own_icmpYes X0 hx hby at_42 (pc' := 57) (by decide) (feq hc42).2 ?_
        refine own_iloadN X0 hx hby at_57 (pc' := 58) rfl rfl ?_
        refine own_iconst X0 hx hby at_58 (pc' := 59) rfl (z := (3 : Int32)) (by decide) ?_
        by_cases hc59 : ((p1 &&& (2147483647 : Int32)) - ((p1 &&& (2147483647 : Int32)) / (5 : Int32)) * (5 : Int32)) = (3 : Int32)
        · skip
          refine own_icmpNo X0 hx hby at_59 (pc' := 62) rfl (teq hc59).2 ?_
          refine own_getS X0 hx hby at_62 (pc' := 65) rfl hZ hown (host := "") (Or.inl (hw _ (List.mem_of_getElem? (i := 20) rfl))) Via.refl e0 S3 ?_
          intro T34 X34 e34
          refine own_astoreN X34 hx hby at_65 (pc' := 66) rfl rfl (Ls' := #[.val (.int p1), .val (.int p2), .val (.int ((p1 &&& (2147483647 : Int32)) - ((p1 &&& (2147483647 : Int32)) / (5 : Int32)) * (5 : Int32))), .val (.ref r3), .unset, .unset, .unset, .unset, .unset, .unset]) rfl ?_
          refine own_sipush X34 hx hby at_66 (pc' := 69) rfl (z := (204 : Int32)) (by decide) ?_
          refine own_istore X34 hx hby at_69 (pc' := 71) rfl (Ls' := #[.val (.int p1), .val (.int p2), .val (.int ((p1 &&& (2147483647 : Int32)) - ((p1 &&& (2147483647 : Int32)) / (5 : Int32)) * (5 : Int32))), .val (.ref r3), .val (.int (204 : Int32)), .unset, .unset, .unset, .unset, .unset]) rfl ?_
          refine own_goto X34 hx hby at_71 (pc' := 82) (by decide) ?_
          refine own_iloadN X34 hx hby at_82 (pc' := 83) rfl rfl ?_
          refine own_iconst X34 hx hby at_83 (pc' := 84) rfl (z := (4 : Int32)) (by decide) ?_
          refine own_iand X34 hx hby at_84 (pc' := 85) rfl rfl ?_
          by_cases hc85 : (p2 &&& (4 : Int32)) = (0 : Int32)
          · skip
            refine own_ifYes X34 hx hby at_85 (pc' := 92) (by decide) (teq hc85).1 ?_
            refine own_iconst X34 hx hby at_92 (pc' := 93) rfl (z := (0 : Int32)) (by decide) ?_
            refine own_istore X34 hx hby at_93 (pc' := 95) rfl (Ls' := #[.val (.int p1), .val (.int p2), .val (.int ((p1 &&& (2147483647 : Int32)) - ((p1 &&& (2147483647 : Int32)) / (5 : Int32)) * (5 : Int32))), .val (.ref r3), .val (.int (204 : Int32)), .val (.int (0 : Int32)), .unset, .unset, .unset, .unset]) rfl ?_
            refine own_iloadN X34 hx hby at_95 (pc' := 96) rfl rfl ?_
            refine own_iconst X34 hx hby at_96 (pc' := 97) rfl (z := (1 : Int32)) (by decide) ?_
            refine own_iand X34 hx hby at_97 (pc' := 98) rfl rfl ?_
            by_cases hc98 : (p2 &&& (1 : Int32)) = (0 : Int32)
            · skip
              refine own_ifYes X34 hx hby at_98 (pc' := 105) (by decide) (teq hc98).1 ?_
              refine own_iconst X34 hx hby at_105 (pc' := 106) rfl (z := (0 : Int32)) (by decide) ?_
              refine own_istore X34 hx hby at_106 (pc' := 108) rfl (Ls' := #[.val (.int p1), .val (.int p2), .val (.int ((p1 &&& (2147483647 : Int32)) - ((p1 &&& (2147483647 : Int32)) / (5 : Int32)) * (5 : Int32))), .val (.ref r3), .val (.int (204 : Int32)), .val (.int (0 : Int32)), .val (.int (0 : Int32)), .unset, .unset, .unset]) rfl ?_
              refine own_iloadN X34 hx hby at_108 (pc' := 109) rfl rfl ?_
              refine own_iconst X34 hx hby at_109 (pc' := 110) rfl (z := (2 : Int32)) (by decide) ?_
              refine own_iand X34 hx hby at_110 (pc' := 111) rfl rfl ?_
              by_cases hc111 : (p2 &&& (2 : Int32)) = (0 : Int32)
              · skip
                refine own_ifNo X34 hx hby at_111 (pc' := 114) rfl (teq hc111).2 ?_
                refine own_iload X34 hx hby at_114 (pc' := 116) rfl rfl ?_
                refine own_ifYes X34 hx hby at_116 (pc' := 123) (by decide) (by decide) ?_
                refine own_iconst X34 hx hby at_123 (pc' := 124) rfl (z := (0 : Int32)) (by decide) ?_
                refine own_istore X34 hx hby at_124 (pc' := 126) rfl (Ls' := #[.val (.int p1), .val (.int p2), .val (.int ((p1 &&& (2147483647 : Int32)) - ((p1 &&& (2147483647 : Int32)) / (5 : Int32)) * (5 : Int32))), .val (.ref r3), .val (.int (204 : Int32)), .val (.int (0 : Int32)), .val (.int (0 : Int32)), .val (.int (0 : Int32)), .unset, .unset]) rfl ?_
                refine own_iload X34 hx hby at_126 (pc' := 128) rfl rfl ?_
                refine own_ifYes X34 hx hby at_128 (pc' := 135) (by decide) (by decide) ?_
                refine own_iconst X34 hx hby at_135 (pc' := 136) rfl (z := (0 : Int32)) (by decide) ?_
                refine own_iload X34 hx hby at_136 (pc' := 138) rfl rfl ?_
                refine own_ifYes X34 hx hby at_138 (pc' := 145) (by decide) (by decide) ?_
                refine own_iconst X34 hx hby at_145 (pc' := 146) rfl (z := (0 : Int32)) (by decide) ?_
                refine own_iadd X34 hx hby at_146 (pc' := 147) rfl (z := (0 : Int32)) (by decide) ?_
                refine own_iload X34 hx hby at_147 (pc' := 149) rfl rfl ?_
                refine own_ifYes X34 hx hby at_149 (pc' := 156) (by decide) (by decide) ?_
                refine own_iconst X34 hx hby at_156 (pc' := 157) rfl (z := (0 : Int32)) (by decide) ?_
                refine own_iadd X34 hx hby at_157 (pc' := 158) rfl (z := (0 : Int32)) (by decide) ?_
                refine own_istore X34 hx hby at_158 (pc' := 160) rfl (Ls' := #[.val (.int p1), .val (.int p2), .val (.int ((p1 &&& (2147483647 : Int32)) - ((p1 &&& (2147483647 : Int32)) / (5 : Int32)) * (5 : Int32))), .val (.ref r3), .val (.int (204 : Int32)), .val (.int (0 : Int32)), .val (.int (0 : Int32)), .val (.int (0 : Int32)), .val (.int (0 : Int32)), .unset]) rfl ?_
                refine own_iload X34 hx hby at_160 (pc' := 162) rfl rfl ?_
                refine own_iload X34 hx hby at_162 (pc' := 164) rfl rfl ?_
                refine own_ishr X34 hx hby at_164 (pc' := 165) rfl (z := (204 : Int32)) (by decide) ?_
                refine own_iconst X34 hx hby at_165 (pc' := 166) rfl (z := (1 : Int32)) (by decide) ?_
                refine own_iand X34 hx hby at_166 (pc' := 167) rfl (z := (0 : Int32)) (by decide) ?_
                refine own_ifYes X34 hx hby at_167 (pc' := 174) (by decide) (by decide) ?_
                refine own_iconst X34 hx hby at_174 (pc' := 175) rfl (z := (0 : Int32)) (by decide) ?_
                refine own_istore X34 hx hby at_175 (pc' := 177) rfl (Ls' := #[.val (.int p1), .val (.int p2), .val (.int ((p1 &&& (2147483647 : Int32)) - ((p1 &&& (2147483647 : Int32)) / (5 : Int32)) * (5 : Int32))), .val (.ref r3), .val (.int (204 : Int32)), .val (.int (0 : Int32)), .val (.int (0 : Int32)), .val (.int (0 : Int32)), .val (.int (0 : Int32)), .val (.int (0 : Int32))]) rfl ?_
                refine own_aloadN X34 hx hby at_177 (pc' := 178) rfl rfl rfl ?_
                refine own_iload X34 hx hby at_178 (pc' := 180) rfl rfl ?_
                refine own_iload X34 hx hby at_180 (pc' := 182) rfl rfl ?_
                refine own_iload X34 hx hby at_182 (pc' := 184) rfl rfl ?_
                refine own_callV X34 hx hZ (rm_t3 l Z a0 hw [] r3 (0 : Int32) (0 : Int32) (0 : Int32) h0 n0 F3 E3) hown (hw _ (List.mem_of_getElem? (i := 4) rfl)) (hw _ (List.mem_of_getElem? (i := 5) rfl)) (hw _ (List.mem_of_getElem? (i := 7) rfl)) (hw _ (List.mem_of_getElem? (i := 6) rfl)) (hw _ (List.mem_of_getElem? (i := 8) rfl)) (hw _ (List.mem_of_getElem? (i := 2) rfl)) (by decide) E3 (W := 0) (by decide) (by decide) (by rw [hml]; rfl) (argsL := [(.int (0 : Int32)), (.int (0 : Int32)), (.int (0 : Int32))]) (rest := []) rfl (lenOf own_pd1 rfl) rfl (Nat.le_of_eq rfl) (hb hby at_184) e34 (by decide) (by decide) ?_
                intro v35 T35 L35 X35 hQ35
                obtain ⟨hv35, N35q, e35⟩ := hQ35
                rw [show own_ti (3 : Int32) (0 : Int32) (0 : Int32) (0 : Int32) = (0 : Int32) from by decide] at hv35
                subst hv35
                have N35 := Fr.app N0 N35q
                show own_Go p.tables e below (T35.setTop (mkF m 187 #[.val (.int p1), .val (.int p2), .val (.int ((p1 &&& (2147483647 : Int32)) - ((p1 &&& (2147483647 : Int32)) / (5 : Int32)) * (5 : Int32))), .val (.ref r3), .val (.int (204 : Int32)), .val (.int (0 : Int32)), .val (.int (0 : Int32)), .val (.int (0 : Int32)), .val (.int (0 : Int32)), .val (.int (0 : Int32))] [(.int (0 : Int32))])) _
                refine own_iload X35 hx hby at_187 (pc' := 189) rfl rfl ?_
                refine own_icmpNo X35 hx hby at_189 (pc' := 192) rfl (by decide) ?_
                refine own_iconst X35 hx hby at_192 (pc' := 193) rfl (z := (1 : Int32)) (by decide) ?_
                refine own_goto X35 hx hby at_193 (pc' := 197) (by decide) ?_
                exact own_retZ (t := .boolean) X35 hx hret (by simp) (hb hby at_197) hlk (by decide) (by decide) ⟨congrArg (fun z => some (Value.int z)) (own_nar1), N35⟩
              · skip
                refine own_ifYes X34 hx hby at_111 (pc' := 119) (by decide) (feq hc111).2 ?_
                refine own_iconst X34 hx hby at_119 (pc' := 120) rfl (z := (1 : Int32)) (by decide) ?_
                refine own_goto X34 hx hby at_120 (pc' := 124) (by decide) ?_
                refine own_istore X34 hx hby at_124 (pc' := 126) rfl (Ls' := #[.val (.int p1), .val (.int p2), .val (.int ((p1 &&& (2147483647 : Int32)) - ((p1 &&& (2147483647 : Int32)) / (5 : Int32)) * (5 : Int32))), .val (.ref r3), .val (.int (204 : Int32)), .val (.int (0 : Int32)), .val (.int (0 : Int32)), .val (.int (1 : Int32)), .unset, .unset]) rfl ?_
                refine own_iload X34 hx hby at_126 (pc' := 128) rfl rfl ?_
                refine own_ifYes X34 hx hby at_128 (pc' := 135) (by decide) (by decide) ?_
                refine own_iconst X34 hx hby at_135 (pc' := 136) rfl (z := (0 : Int32)) (by decide) ?_
                refine own_iload X34 hx hby at_136 (pc' := 138) rfl rfl ?_
                refine own_ifNo X34 hx hby at_138 (pc' := 141) rfl (by decide) ?_
                refine own_iconst X34 hx hby at_141 (pc' := 142) rfl (z := (2 : Int32)) (by decide) ?_
                refine own_goto X34 hx hby at_142 (pc' := 146) (by decide) ?_
                refine own_iadd X34 hx hby at_146 (pc' := 147) rfl (z := (2 : Int32)) (by decide) ?_
                refine own_iload X34 hx hby at_147 (pc' := 149) rfl rfl ?_
                refine own_ifYes X34 hx hby at_149 (pc' := 156) (by decide) (by decide) ?_
                refine own_iconst X34 hx hby at_156 (pc' := 157) rfl (z := (0 : Int32)) (by decide) ?_
                refine own_iadd X34 hx hby at_157 (pc' := 158) rfl (z := (2 : Int32)) (by decide) ?_
                refine own_istore X34 hx hby at_158 (pc' := 160) rfl (Ls' := #[.val (.int p1), .val (.int p2), .val (.int ((p1 &&& (2147483647 : Int32)) - ((p1 &&& (2147483647 : Int32)) / (5 : Int32)) * (5 : Int32))), .val (.ref r3), .val (.int (204 : Int32)), .val (.int (0 : Int32)), .val (.int (0 : Int32)), .val (.int (1 : Int32)), .val (.int (2 : Int32)), .unset]) rfl ?_
                refine own_iload X34 hx hby at_160 (pc' := 162) rfl rfl ?_
                refine own_iload X34 hx hby at_162 (pc' := 164) rfl rfl ?_
                refine own_ishr X34 hx hby at_164 (pc' := 165) rfl (z := (51 : Int32)) (by decide) ?_
                refine own_iconst X34 hx hby at_165 (pc' := 166) rfl (z := (1 : Int32)) (by decide) ?_
                refine own_iand X34 hx hby at_166 (pc' := 167) rfl (z := (1 : Int32)) (by decide) ?_
                refine own_ifNo X34 hx hby at_167 (pc' := 170) rfl (by decide) ?_
                refine own_iconst X34 hx hby at_170 (pc' := 171) rfl (z := (1 : Int32)) (by decide) ?_
                refine own_goto X34 hx hby at_171 (pc' := 175) (by decide) ?_
                refine own_istore X34 hx hby at_175 (pc' := 177) rfl (Ls' := #[.val (.int p1), .val (.int p2), .val (.int ((p1 &&& (2147483647 : Int32)) - ((p1 &&& (2147483647 : Int32)) / (5 : Int32)) * (5 : Int32))), .val (.ref r3), .val (.int (204 : Int32)), .val (.int (0 : Int32)), .val (.int (0 : Int32)), .val (.int (1 : Int32)), .val (.int (2 : Int32)), .val (.int (1 : Int32))]) rfl ?_
                refine own_aloadN X34 hx hby at_177 (pc' := 178) rfl rfl rfl ?_
                refine own_iload X34 hx hby at_178 (pc' := 180) rfl rfl ?_
                refine own_iload X34 hx hby at_180 (pc' := 182) rfl rfl ?_
                refine own_iload X34 hx hby at_182 (pc' := 184) rfl rfl ?_
                refine own_callV X34 hx hZ (rm_t3 l Z a0 hw [] r3 (0 : Int32) (1 : Int32) (0 : Int32) h0 n0 F3 E3) hown (hw _ (List.mem_of_getElem? (i := 4) rfl)) (hw _ (List.mem_of_getElem? (i := 5) rfl)) (hw _ (List.mem_of_getElem? (i := 7) rfl)) (hw _ (List.mem_of_getElem? (i := 6) rfl)) (hw _ (List.mem_of_getElem? (i := 8) rfl)) (hw _ (List.mem_of_getElem? (i := 2) rfl)) (by decide) E3 (W := 0) (by decide) (by decide) (by rw [hml]; rfl) (argsL := [(.int (0 : Int32)), (.int (1 : Int32)), (.int (0 : Int32))]) (rest := []) rfl (lenOf own_pd1 rfl) rfl (Nat.le_of_eq rfl) (hb hby at_184) e34 (by decide) (by decide) ?_
                intro v36 T36 L36 X36 hQ36
                obtain ⟨hv36, N36q, e36⟩ := hQ36
                rw [show own_ti (3 : Int32) (0 : Int32) (1 : Int32) (0 : Int32) = (1 : Int32) from by decide] at hv36
                subst hv36
                have N36 := Fr.app N0 N36q
                show own_Go p.tables e below (T36.setTop (mkF m 187 #[.val (.int p1), .val (.int p2), .val (.int ((p1 &&& (2147483647 : Int32)) - ((p1 &&& (2147483647 : Int32)) / (5 : Int32)) * (5 : Int32))), .val (.ref r3), .val (.int (204 : Int32)), .val (.int (0 : Int32)), .val (.int (0 : Int32)), .val (.int (1 : Int32)), .val (.int (2 : Int32)), .val (.int (1 : Int32))] [(.int (1 : Int32))])) _
                refine own_iload X36 hx hby at_187 (pc' := 189) rfl rfl ?_
                refine own_icmpNo X36 hx hby at_189 (pc' := 192) rfl (by decide) ?_
                refine own_iconst X36 hx hby at_192 (pc' := 193) rfl (z := (1 : Int32)) (by decide) ?_
                refine own_goto X36 hx hby at_193 (pc' := 197) (by decide) ?_
                exact own_retZ (t := .boolean) X36 hx hret (by simp) (hb hby at_197) hlk (by decide) (by decide) ⟨congrArg (fun z => some (Value.int z)) (own_nar1), N36⟩
            · skip
              refine own_ifNo X34 hx hby at_98 (pc' := 101) rfl (feq hc98).1 ?_
              refine own_iconst X34 hx hby at_101 (pc' := 102) rfl (z := (1 : Int32)) (by decide) ?_
              refine own_goto X34 hx hby at_102 (pc' := 106) (by decide) ?_
              refine own_istore X34 hx hby at_106 (pc' := 108) rfl (Ls' := #[.val (.int p1), .val (.int p2), .val (.int ((p1 &&& (2147483647 : Int32)) - ((p1 &&& (2147483647 : Int32)) / (5 : Int32)) * (5 : Int32))), .val (.ref r3), .val (.int (204 : Int32)), .val (.int (0 : Int32)), .val (.int (1 : Int32)), .unset, .unset, .unset]) rfl ?_
              refine own_iloadN X34 hx hby at_108 (pc' := 109) rfl rfl ?_
              refine own_iconst X34 hx hby at_109 (pc' := 110) rfl (z := (2 : Int32)) (by decide) ?_
              refine own_iand X34 hx hby at_110 (pc' := 111) rfl rfl ?_
              by_cases hc111 : (p2 &&& (2 : Int32)) = (0 : Int32)
              · skip
                refine own_ifNo X34 hx hby at_111 (pc' := 114) rfl (teq hc111).2 ?_
                refine own_iload X34 hx hby at_114 (pc' := 116) rfl rfl ?_
                refine own_ifNo X34 hx hby at_116 (pc' := 119) rfl (by decide) ?_
                refine own_iconst X34 hx hby at_119 (pc' := 120) rfl (z := (1 : Int32)) (by decide) ?_
                refine own_goto X34 hx hby at_120 (pc' := 124) (by decide) ?_
                refine own_istore X34 hx hby at_124 (pc' := 126) rfl (Ls' := #[.val (.int p1), .val (.int p2), .val (.int ((p1 &&& (2147483647 : Int32)) - ((p1 &&& (2147483647 : Int32)) / (5 : Int32)) * (5 : Int32))), .val (.ref r3), .val (.int (204 : Int32)), .val (.int (0 : Int32)), .val (.int (1 : Int32)), .val (.int (1 : Int32)), .unset, .unset]) rfl ?_
                refine own_iload X34 hx hby at_126 (pc' := 128) rfl rfl ?_
                refine own_ifYes X34 hx hby at_128 (pc' := 135) (by decide) (by decide) ?_
                refine own_iconst X34 hx hby at_135 (pc' := 136) rfl (z := (0 : Int32)) (by decide) ?_
                refine own_iload X34 hx hby at_136 (pc' := 138) rfl rfl ?_
                refine own_ifNo X34 hx hby at_138 (pc' := 141) rfl (by decide) ?_
                refine own_iconst X34 hx hby at_141 (pc' := 142) rfl (z := (2 : Int32)) (by decide) ?_
                refine own_goto X34 hx hby at_142 (pc' := 146) (by decide) ?_
                refine own_iadd X34 hx hby at_146 (pc' := 147) rfl (z := (2 : Int32)) (by decide) ?_
                refine own_iload X34 hx hby at_147 (pc' := 149) rfl rfl ?_
                refine own_ifNo X34 hx hby at_149 (pc' := 152) rfl (by decide) ?_
                refine own_iconst X34 hx hby at_152 (pc' := 153) rfl (z := (1 : Int32)) (by decide) ?_
                refine own_goto X34 hx hby at_153 (pc' := 157) (by decide) ?_
                refine own_iadd X34 hx hby at_157 (pc' := 158) rfl (z := (3 : Int32)) (by decide) ?_
                refine own_istore X34 hx hby at_158 (pc' := 160) rfl (Ls' := #[.val (.int p1), .val (.int p2), .val (.int ((p1 &&& (2147483647 : Int32)) - ((p1 &&& (2147483647 : Int32)) / (5 : Int32)) * (5 : Int32))), .val (.ref r3), .val (.int (204 : Int32)), .val (.int (0 : Int32)), .val (.int (1 : Int32)), .val (.int (1 : Int32)), .val (.int (3 : Int32)), .unset]) rfl ?_
                refine own_iload X34 hx hby at_160 (pc' := 162) rfl rfl ?_
                refine own_iload X34 hx hby at_162 (pc' := 164) rfl rfl ?_
                refine own_ishr X34 hx hby at_164 (pc' := 165) rfl (z := (25 : Int32)) (by decide) ?_
                refine own_iconst X34 hx hby at_165 (pc' := 166) rfl (z := (1 : Int32)) (by decide) ?_
                refine own_iand X34 hx hby at_166 (pc' := 167) rfl (z := (1 : Int32)) (by decide) ?_
                refine own_ifNo X34 hx hby at_167 (pc' := 170) rfl (by decide) ?_
                refine own_iconst X34 hx hby at_170 (pc' := 171) rfl (z := (1 : Int32)) (by decide) ?_
                refine own_goto X34 hx hby at_171 (pc' := 175) (by decide) ?_
                refine own_istore X34 hx hby at_175 (pc' := 177) rfl (Ls' := #[.val (.int p1), .val (.int p2), .val (.int ((p1 &&& (2147483647 : Int32)) - ((p1 &&& (2147483647 : Int32)) / (5 : Int32)) * (5 : Int32))), .val (.ref r3), .val (.int (204 : Int32)), .val (.int (0 : Int32)), .val (.int (1 : Int32)), .val (.int (1 : Int32)), .val (.int (3 : Int32)), .val (.int (1 : Int32))]) rfl ?_
                refine own_aloadN X34 hx hby at_177 (pc' := 178) rfl rfl rfl ?_
                refine own_iload X34 hx hby at_178 (pc' := 180) rfl rfl ?_
                refine own_iload X34 hx hby at_180 (pc' := 182) rfl rfl ?_
                refine own_iload X34 hx hby at_182 (pc' := 184) rfl rfl ?_
                refine own_callV X34 hx hZ (rm_t3 l Z a0 hw [] r3 (0 : Int32) (1 : Int32) (1 : Int32) h0 n0 F3 E3) hown (hw _ (List.mem_of_getElem? (i := 4) rfl)) (hw _ (List.mem_of_getElem? (i := 5) rfl)) (hw _ (List.mem_of_getElem? (i := 7) rfl)) (hw _ (List.mem_of_getElem? (i := 6) rfl)) (hw _ (List.mem_of_getElem? (i := 8) rfl)) (hw _ (List.mem_of_getElem? (i := 2) rfl)) (by decide) E3 (W := 0) (by decide) (by decide) (by rw [hml]; rfl) (argsL := [(.int (0 : Int32)), (.int (1 : Int32)), (.int (1 : Int32))]) (rest := []) rfl (lenOf own_pd1 rfl) rfl (Nat.le_of_eq rfl) (hb hby at_184) e34 (by decide) (by decide) ?_
                intro v37 T37 L37 X37 hQ37
                obtain ⟨hv37, N37q, e37⟩ := hQ37
                rw [show own_ti (3 : Int32) (0 : Int32) (1 : Int32) (1 : Int32) = (1 : Int32) from by decide] at hv37
                subst hv37
                have N37 := Fr.app N0 N37q
                show own_Go p.tables e below (T37.setTop (mkF m 187 #[.val (.int p1), .val (.int p2), .val (.int ((p1 &&& (2147483647 : Int32)) - ((p1 &&& (2147483647 : Int32)) / (5 : Int32)) * (5 : Int32))), .val (.ref r3), .val (.int (204 : Int32)), .val (.int (0 : Int32)), .val (.int (1 : Int32)), .val (.int (1 : Int32)), .val (.int (3 : Int32)), .val (.int (1 : Int32))] [(.int (1 : Int32))])) _
                refine own_iload X37 hx hby at_187 (pc' := 189) rfl rfl ?_
                refine own_icmpNo X37 hx hby at_189 (pc' := 192) rfl (by decide) ?_
                refine own_iconst X37 hx hby at_192 (pc' := 193) rfl (z := (1 : Int32)) (by decide) ?_
                refine own_goto X37 hx hby at_193 (pc' := 197) (by decide) ?_
                exact own_retZ (t := .boolean) X37 hx hret (by simp) (hb hby at_197) hlk (by decide) (by decide) ⟨congrArg (fun z => some (Value.int z)) (own_nar1), N37⟩
              · skip
                refine own_ifYes X34 hx hby at_111 (pc' := 119) (by decide) (feq hc111).2 ?_
                refine own_iconst X34 hx hby at_119 (pc' := 120) rfl (z := (1 : Int32)) (by decide) ?_
                refine own_goto X34 hx hby at_120 (pc' := 124) (by decide) ?_
                refine own_istore X34 hx hby at_124 (pc' := 126) rfl (Ls' := #[.val (.int p1), .val (.int p2), .val (.int ((p1 &&& (2147483647 : Int32)) - ((p1 &&& (2147483647 : Int32)) / (5 : Int32)) * (5 : Int32))), .val (.ref r3), .val (.int (204 : Int32)), .val (.int (0 : Int32)), .val (.int (1 : Int32)), .val (.int (1 : Int32)), .unset, .unset]) rfl ?_
                refine own_iload X34 hx hby at_126 (pc' := 128) rfl rfl ?_
                refine own_ifYes X34 hx hby at_128 (pc' := 135) (by decide) (by decide) ?_
                refine own_iconst X34 hx hby at_135 (pc' := 136) rfl (z := (0 : Int32)) (by decide) ?_
                refine own_iload X34 hx hby at_136 (pc' := 138) rfl rfl ?_
                refine own_ifNo X34 hx hby at_138 (pc' := 141) rfl (by decide) ?_
                refine own_iconst X34 hx hby at_141 (pc' := 142) rfl (z := (2 : Int32)) (by decide) ?_
                refine own_goto X34 hx hby at_142 (pc' := 146) (by decide) ?_
                refine own_iadd X34 hx hby at_146 (pc' := 147) rfl (z := (2 : Int32)) (by decide) ?_
                refine own_iload X34 hx hby at_147 (pc' := 149) rfl rfl ?_
                refine own_ifNo X34 hx hby at_149 (pc' := 152) rfl (by decide) ?_
                refine own_iconst X34 hx hby at_152 (pc' := 153) rfl (z := (1 : Int32)) (by decide) ?_
                refine own_goto X34 hx hby at_153 (pc' := 157) (by decide) ?_
                refine own_iadd X34 hx hby at_157 (pc' := 158) rfl (z := (3 : Int32)) (by decide) ?_
                refine own_istore X34 hx hby at_158 (pc' := 160) rfl (Ls' := #[.val (.int p1), .val (.int p2), .val (.int ((p1 &&& (2147483647 : Int32)) - ((p1 &&& (2147483647 : Int32)) / (5 : Int32)) * (5 : Int32))), .val (.ref r3), .val (.int (204 : Int32)), .val (.int (0 : Int32)), .val (.int (1 : Int32)), .val (.int (1 : Int32)), .val (.int (3 : Int32)), .unset]) rfl ?_
                refine own_iload X34 hx hby at_160 (pc' := 162) rfl rfl ?_
                refine own_iload X34 hx hby at_162 (pc' := 164) rfl rfl ?_
                refine own_ishr X34 hx hby at_164 (pc' := 165) rfl (z := (25 : Int32)) (by decide) ?_
                refine own_iconst X34 hx hby at_165 (pc' := 166) rfl (z := (1 : Int32)) (by decide) ?_
                refine own_iand X34 hx hby at_166 (pc' := 167) rfl (z := (1 : Int32)) (by decide) ?_
                refine own_ifNo X34 hx hby at_167 (pc' := 170) rfl (by decide) ?_
                refine own_iconst X34 hx hby at_170 (pc' := 171) rfl (z := (1 : Int32)) (by decide) ?_
                refine own_goto X34 hx hby at_171 (pc' := 175) (by decide) ?_
                refine own_istore X34 hx hby at_175 (pc' := 177) rfl (Ls' := #[.val (.int p1), .val (.int p2), .val (.int ((p1 &&& (2147483647 : Int32)) - ((p1 &&& (2147483647 : Int32)) / (5 : Int32)) * (5 : Int32))), .val (.ref r3), .val (.int (204 : Int32)), .val (.int (0 : Int32)), .val (.int (1 : Int32)), .val (.int (1 : Int32)), .val (.int (3 : Int32)), .val (.int (1 : Int32))]) rfl ?_
                refine own_aloadN X34 hx hby at_177 (pc' := 178) rfl rfl rfl ?_
                refine own_iload X34 hx hby at_178 (pc' := 180) rfl rfl ?_
                refine own_iload X34 hx hby at_180 (pc' := 182) rfl rfl ?_
                refine own_iload X34 hx hby at_182 (pc' := 184) rfl rfl ?_
                refine own_callV X34 hx hZ (rm_t3 l Z a0 hw [] r3 (0 : Int32) (1 : Int32) (1 : Int32) h0 n0 F3 E3) hown (hw _ (List.mem_of_getElem? (i := 4) rfl)) (hw _ (List.mem_of_getElem? (i := 5) rfl)) (hw _ (List.mem_of_getElem? (i := 7) rfl)) (hw _ (List.mem_of_getElem? (i := 6) rfl)) (hw _ (List.mem_of_getElem? (i := 8) rfl)) (hw _ (List.mem_of_getElem? (i := 2) rfl)) (by decide) E3 (W := 0) (by decide) (by decide) (by rw [hml]; rfl) (argsL := [(.int (0 : Int32)), (.int (1 : Int32)), (.int (1 : Int32))]) (rest := []) rfl (lenOf own_pd1 rfl) rfl (Nat.le_of_eq rfl) (hb hby at_184) e34 (by decide) (by decide) ?_
                intro v38 T38 L38 X38 hQ38
                obtain ⟨hv38, N38q, e38⟩ := hQ38
                rw [show own_ti (3 : Int32) (0 : Int32) (1 : Int32) (1 : Int32) = (1 : Int32) from by decide] at hv38
                subst hv38
                have N38 := Fr.app N0 N38q
                show own_Go p.tables e below (T38.setTop (mkF m 187 #[.val (.int p1), .val (.int p2), .val (.int ((p1 &&& (2147483647 : Int32)) - ((p1 &&& (2147483647 : Int32)) / (5 : Int32)) * (5 : Int32))), .val (.ref r3), .val (.int (204 : Int32)), .val (.int (0 : Int32)), .val (.int (1 : Int32)), .val (.int (1 : Int32)), .val (.int (3 : Int32)), .val (.int (1 : Int32))] [(.int (1 : Int32))])) _
                refine own_iload X38 hx hby at_187 (pc' := 189) rfl rfl ?_
                refine own_icmpNo X38 hx hby at_189 (pc' := 192) rfl (by decide) ?_
                refine own_iconst X38 hx hby at_192 (pc' := 193) rfl (z := (1 : Int32)) (by decide) ?_
                refine own_goto X38 hx hby at_193 (pc' := 197) (by decide) ?_
                exact own_retZ (t := .boolean) X38 hx hret (by simp) (hb hby at_197) hlk (by decide) (by decide) ⟨congrArg (fun z => some (Value.int z)) (own_nar1), N38⟩
          · skip
            refine own_ifNo X34 hx hby at_85 (pc' := 88) rfl (feq hc85).1 ?_
            refine own_iconst X34 hx hby at_88 (pc' := 89) rfl (z := (1 : Int32)) (by decide) ?_
            refine own_goto X34 hx hby at_89 (pc' := 93) (by decide) ?_
            refine own_istore X34 hx hby at_93 (pc' := 95) rfl (Ls' := #[.val (.int p1), .val (.int p2), .val (.int ((p1 &&& (2147483647 : Int32)) - ((p1 &&& (2147483647 : Int32)) / (5 : Int32)) * (5 : Int32))), .val (.ref r3), .val (.int (204 : Int32)), .val (.int (1 : Int32)), .unset, .unset, .unset, .unset]) rfl ?_
            refine own_iloadN X34 hx hby at_95 (pc' := 96) rfl rfl ?_
            refine own_iconst X34 hx hby at_96 (pc' := 97) rfl (z := (1 : Int32)) (by decide) ?_
            refine own_iand X34 hx hby at_97 (pc' := 98) rfl rfl ?_
            by_cases hc98 : (p2 &&& (1 : Int32)) = (0 : Int32)
            · skip
              refine own_ifYes X34 hx hby at_98 (pc' := 105) (by decide) (teq hc98).1 ?_
              refine own_iconst X34 hx hby at_105 (pc' := 106) rfl (z := (0 : Int32)) (by decide) ?_
              refine own_istore X34 hx hby at_106 (pc' := 108) rfl (Ls' := #[.val (.int p1), .val (.int p2), .val (.int ((p1 &&& (2147483647 : Int32)) - ((p1 &&& (2147483647 : Int32)) / (5 : Int32)) * (5 : Int32))), .val (.ref r3), .val (.int (204 : Int32)), .val (.int (1 : Int32)), .val (.int (0 : Int32)), .unset, .unset, .unset]) rfl ?_
              refine own_iloadN X34 hx hby at_108 (pc' := 109) rfl rfl ?_
              refine own_iconst X34 hx hby at_109 (pc' := 110) rfl (z := (2 : Int32)) (by decide) ?_
              refine own_iand X34 hx hby at_110 (pc' := 111) rfl rfl ?_
              by_cases hc111 : (p2 &&& (2 : Int32)) = (0 : Int32)
              · skip
                refine own_ifNo X34 hx hby at_111 (pc' := 114) rfl (teq hc111).2 ?_
                refine own_iload X34 hx hby at_114 (pc' := 116) rfl rfl ?_
                refine own_ifYes X34 hx hby at_116 (pc' := 123) (by decide) (by decide) ?_
                refine own_iconst X34 hx hby at_123 (pc' := 124) rfl (z := (0 : Int32)) (by decide) ?_
                refine own_istore X34 hx hby at_124 (pc' := 126) rfl (Ls' := #[.val (.int p1), .val (.int p2), .val (.int ((p1 &&& (2147483647 : Int32)) - ((p1 &&& (2147483647 : Int32)) / (5 : Int32)) * (5 : Int32))), .val (.ref r3), .val (.int (204 : Int32)), .val (.int (1 : Int32)), .val (.int (0 : Int32)), .val (.int (0 : Int32)), .unset, .unset]) rfl ?_
                refine own_iload X34 hx hby at_126 (pc' := 128) rfl rfl ?_
                refine own_ifNo X34 hx hby at_128 (pc' := 131) rfl (by decide) ?_
                refine own_iconst X34 hx hby at_131 (pc' := 132) rfl (z := (4 : Int32)) (by decide) ?_
                refine own_goto X34 hx hby at_132 (pc' := 136) (by decide) ?_
                refine own_iload X34 hx hby at_136 (pc' := 138) rfl rfl ?_
                refine own_ifYes X34 hx hby at_138 (pc' := 145) (by decide) (by decide) ?_
                refine own_iconst X34 hx hby at_145 (pc' := 146) rfl (z := (0 : Int32)) (by decide) ?_
                refine own_iadd X34 hx hby at_146 (pc' := 147) rfl (z := (4 : Int32)) (by decide) ?_
                refine own_iload X34 hx hby at_147 (pc' := 149) rfl rfl ?_
                refine own_ifYes X34 hx hby at_149 (pc' := 156) (by decide) (by decide) ?_
                refine own_iconst X34 hx hby at_156 (pc' := 157) rfl (z := (0 : Int32)) (by decide) ?_
                refine own_iadd X34 hx hby at_157 (pc' := 158) rfl (z := (4 : Int32)) (by decide) ?_
                refine own_istore X34 hx hby at_158 (pc' := 160) rfl (Ls' := #[.val (.int p1), .val (.int p2), .val (.int ((p1 &&& (2147483647 : Int32)) - ((p1 &&& (2147483647 : Int32)) / (5 : Int32)) * (5 : Int32))), .val (.ref r3), .val (.int (204 : Int32)), .val (.int (1 : Int32)), .val (.int (0 : Int32)), .val (.int (0 : Int32)), .val (.int (4 : Int32)), .unset]) rfl ?_
                refine own_iload X34 hx hby at_160 (pc' := 162) rfl rfl ?_
                refine own_iload X34 hx hby at_162 (pc' := 164) rfl rfl ?_
                refine own_ishr X34 hx hby at_164 (pc' := 165) rfl (z := (12 : Int32)) (by decide) ?_
                refine own_iconst X34 hx hby at_165 (pc' := 166) rfl (z := (1 : Int32)) (by decide) ?_
                refine own_iand X34 hx hby at_166 (pc' := 167) rfl (z := (0 : Int32)) (by decide) ?_
                refine own_ifYes X34 hx hby at_167 (pc' := 174) (by decide) (by decide) ?_
                refine own_iconst X34 hx hby at_174 (pc' := 175) rfl (z := (0 : Int32)) (by decide) ?_
                refine own_istore X34 hx hby at_175 (pc' := 177) rfl (Ls' := #[.val (.int p1), .val (.int p2), .val (.int ((p1 &&& (2147483647 : Int32)) - ((p1 &&& (2147483647 : Int32)) / (5 : Int32)) * (5 : Int32))), .val (.ref r3), .val (.int (204 : Int32)), .val (.int (1 : Int32)), .val (.int (0 : Int32)), .val (.int (0 : Int32)), .val (.int (4 : Int32)), .val (.int (0 : Int32))]) rfl ?_
                refine own_aloadN X34 hx hby at_177 (pc' := 178) rfl rfl rfl ?_
                refine own_iload X34 hx hby at_178 (pc' := 180) rfl rfl ?_
                refine own_iload X34 hx hby at_180 (pc' := 182) rfl rfl ?_
                refine own_iload X34 hx hby at_182 (pc' := 184) rfl rfl ?_
                refine own_callV X34 hx hZ (rm_t3 l Z a0 hw [] r3 (1 : Int32) (0 : Int32) (0 : Int32) h0 n0 F3 E3) hown (hw _ (List.mem_of_getElem? (i := 4) rfl)) (hw _ (List.mem_of_getElem? (i := 5) rfl)) (hw _ (List.mem_of_getElem? (i := 7) rfl)) (hw _ (List.mem_of_getElem? (i := 6) rfl)) (hw _ (List.mem_of_getElem? (i := 8) rfl)) (hw _ (List.mem_of_getElem? (i := 2) rfl)) (by decide) E3 (W := 0) (by decide) (by decide) (by rw [hml]; rfl) (argsL := [(.int (1 : Int32)), (.int (0 : Int32)), (.int (0 : Int32))]) (rest := []) rfl (lenOf own_pd1 rfl) rfl (Nat.le_of_eq rfl) (hb hby at_184) e34 (by decide) (by decide) ?_
                intro v39 T39 L39 X39 hQ39
                obtain ⟨hv39, N39q, e39⟩ := hQ39
                rw [show own_ti (3 : Int32) (1 : Int32) (0 : Int32) (0 : Int32) = (0 : Int32) from by decide] at hv39
                subst hv39
                have N39 := Fr.app N0 N39q
                show own_Go p.tables e below (T39.setTop (mkF m 187 #[.val (.int p1), .val (.int p2), .val (.int ((p1 &&& (2147483647 : Int32)) - ((p1 &&& (2147483647 : Int32)) / (5 : Int32)) * (5 : Int32))), .val (.ref r3), .val (.int (204 : Int32)), .val (.int (1 : Int32)), .val (.int (0 : Int32)), .val (.int (0 : Int32)), .val (.int (4 : Int32)), .val (.int (0 : Int32))] [(.int (0 : Int32))])) _
                refine own_iload X39 hx hby at_187 (pc' := 189) rfl rfl ?_
                refine own_icmpNo X39 hx hby at_189 (pc' := 192) rfl (by decide) ?_
                refine own_iconst X39 hx hby at_192 (pc' := 193) rfl (z := (1 : Int32)) (by decide) ?_
                refine own_goto X39 hx hby at_193 (pc' := 197) (by decide) ?_
                exact own_retZ (t := .boolean) X39 hx hret (by simp) (hb hby at_197) hlk (by decide) (by decide) ⟨congrArg (fun z => some (Value.int z)) (own_nar1), N39⟩
              · skip
                refine own_ifYes X34 hx hby at_111 (pc' := 119) (by decide) (feq hc111).2 ?_
                refine own_iconst X34 hx hby at_119 (pc' := 120) rfl (z := (1 : Int32)) (by decide) ?_
                refine own_goto X34 hx hby at_120 (pc' := 124) (by decide) ?_
                refine own_istore X34 hx hby at_124 (pc' := 126) rfl (Ls' := #[.val (.int p1), .val (.int p2), .val (.int ((p1 &&& (2147483647 : Int32)) - ((p1 &&& (2147483647 : Int32)) / (5 : Int32)) * (5 : Int32))), .val (.ref r3), .val (.int (204 : Int32)), .val (.int (1 : Int32)), .val (.int (0 : Int32)), .val (.int (1 : Int32)), .unset, .unset]) rfl ?_
                refine own_iload X34 hx hby at_126 (pc' := 128) rfl rfl ?_
                refine own_ifNo X34 hx hby at_128 (pc' := 131) rfl (by decide) ?_
                refine own_iconst X34 hx hby at_131 (pc' := 132) rfl (z := (4 : Int32)) (by decide) ?_
                refine own_goto X34 hx hby at_132 (pc' := 136) (by decide) ?_
                refine own_iload X34 hx hby at_136 (pc' := 138) rfl rfl ?_
                refine own_ifNo X34 hx hby at_138 (pc' := 141) rfl (by decide) ?_
                refine own_iconst X34 hx hby at_141 (pc' := 142) rfl (z := (2 : Int32)) (by decide) ?_
                refine own_goto X34 hx hby at_142 (pc' := 146) (by decide) ?_
                refine own_iadd X34 hx hby at_146 (pc' := 147) rfl (z := (6 : Int32)) (by decide) ?_
                refine own_iload X34 hx hby at_147 (pc' := 149) rfl rfl ?_
                refine own_ifYes X34 hx hby at_149 (pc' := 156) (by decide) (by decide) ?_
                refine own_iconst X34 hx hby at_156 (pc' := 157) rfl (z := (0 : Int32)) (by decide) ?_
                refine own_iadd X34 hx hby at_157 (pc' := 158) rfl (z := (6 : Int32)) (by decide) ?_
                refine own_istore X34 hx hby at_158 (pc' := 160) rfl (Ls' := #[.val (.int p1), .val (.int p2), .val (.int ((p1 &&& (2147483647 : Int32)) - ((p1 &&& (2147483647 : Int32)) / (5 : Int32)) * (5 : Int32))), .val (.ref r3), .val (.int (204 : Int32)), .val (.int (1 : Int32)), .val (.int (0 : Int32)), .val (.int (1 : Int32)), .val (.int (6 : Int32)), .unset]) rfl ?_
                refine own_iload X34 hx hby at_160 (pc' := 162) rfl rfl ?_
                refine own_iload X34 hx hby at_162 (pc' := 164) rfl rfl ?_
                refine own_ishr X34 hx hby at_164 (pc' := 165) rfl (z := (3 : Int32)) (by decide) ?_
                refine own_iconst X34 hx hby at_165 (pc' := 166) rfl (z := (1 : Int32)) (by decide) ?_
                refine own_iand X34 hx hby at_166 (pc' := 167) rfl (z := (1 : Int32)) (by decide) ?_
                refine own_ifNo X34 hx hby at_167 (pc' := 170) rfl (by decide) ?_
                refine own_iconst X34 hx hby at_170 (pc' := 171) rfl (z := (1 : Int32)) (by decide) ?_
                refine own_goto X34 hx hby at_171 (pc' := 175) (by decide) ?_
                refine own_istore X34 hx hby at_175 (pc' := 177) rfl (Ls' := #[.val (.int p1), .val (.int p2), .val (.int ((p1 &&& (2147483647 : Int32)) - ((p1 &&& (2147483647 : Int32)) / (5 : Int32)) * (5 : Int32))), .val (.ref r3), .val (.int (204 : Int32)), .val (.int (1 : Int32)), .val (.int (0 : Int32)), .val (.int (1 : Int32)), .val (.int (6 : Int32)), .val (.int (1 : Int32))]) rfl ?_
                refine own_aloadN X34 hx hby at_177 (pc' := 178) rfl rfl rfl ?_
                refine own_iload X34 hx hby at_178 (pc' := 180) rfl rfl ?_
                refine own_iload X34 hx hby at_180 (pc' := 182) rfl rfl ?_
                refine own_iload X34 hx hby at_182 (pc' := 184) rfl rfl ?_
                refine own_callV X34 hx hZ (rm_t3 l Z a0 hw [] r3 (1 : Int32) (1 : Int32) (0 : Int32) h0 n0 F3 E3) hown (hw _ (List.mem_of_getElem? (i := 4) rfl)) (hw _ (List.mem_of_getElem? (i := 5) rfl)) (hw _ (List.mem_of_getElem? (i := 7) rfl)) (hw _ (List.mem_of_getElem? (i := 6) rfl)) (hw _ (List.mem_of_getElem? (i := 8) rfl)) (hw _ (List.mem_of_getElem? (i := 2) rfl)) (by decide) E3 (W := 0) (by decide) (by decide) (by rw [hml]; rfl) (argsL := [(.int (1 : Int32)), (.int (1 : Int32)), (.int (0 : Int32))]) (rest := []) rfl (lenOf own_pd1 rfl) rfl (Nat.le_of_eq rfl) (hb hby at_184) e34 (by decide) (by decide) ?_
                intro v40 T40 L40 X40 hQ40
                obtain ⟨hv40, N40q, e40⟩ := hQ40
                rw [show own_ti (3 : Int32) (1 : Int32) (1 : Int32) (0 : Int32) = (1 : Int32) from by decide] at hv40
                subst hv40
                have N40 := Fr.app N0 N40q
                show own_Go p.tables e below (T40.setTop (mkF m 187 #[.val (.int p1), .val (.int p2), .val (.int ((p1 &&& (2147483647 : Int32)) - ((p1 &&& (2147483647 : Int32)) / (5 : Int32)) * (5 : Int32))), .val (.ref r3), .val (.int (204 : Int32)), .val (.int (1 : Int32)), .val (.int (0 : Int32)), .val (.int (1 : Int32)), .val (.int (6 : Int32)), .val (.int (1 : Int32))] [(.int (1 : Int32))])) _
                refine own_iload X40 hx hby at_187 (pc' := 189) rfl rfl ?_
                refine own_icmpNo X40 hx hby at_189 (pc' := 192) rfl (by decide) ?_
                refine own_iconst X40 hx hby at_192 (pc' := 193) rfl (z := (1 : Int32)) (by decide) ?_
                refine own_goto X40 hx hby at_193 (pc' := 197) (by decide) ?_
                exact own_retZ (t := .boolean) X40 hx hret (by simp) (hb hby at_197) hlk (by decide) (by decide) ⟨congrArg (fun z => some (Value.int z)) (own_nar1), N40⟩
            · skip
              refine own_ifNo X34 hx hby at_98 (pc' := 101) rfl (feq hc98).1 ?_
              refine own_iconst X34 hx hby at_101 (pc' := 102) rfl (z := (1 : Int32)) (by decide) ?_
              refine own_goto X34 hx hby at_102 (pc' := 106) (by decide) ?_
              refine own_istore X34 hx hby at_106 (pc' := 108) rfl (Ls' := #[.val (.int p1), .val (.int p2), .val (.int ((p1 &&& (2147483647 : Int32)) - ((p1 &&& (2147483647 : Int32)) / (5 : Int32)) * (5 : Int32))), .val (.ref r3), .val (.int (204 : Int32)), .val (.int (1 : Int32)), .val (.int (1 : Int32)), .unset, .unset, .unset]) rfl ?_
              refine own_iloadN X34 hx hby at_108 (pc' := 109) rfl rfl ?_
              refine own_iconst X34 hx hby at_109 (pc' := 110) rfl (z := (2 : Int32)) (by decide) ?_
              refine own_iand X34 hx hby at_110 (pc' := 111) rfl rfl ?_
              by_cases hc111 : (p2 &&& (2 : Int32)) = (0 : Int32)
              · skip
                refine own_ifNo X34 hx hby at_111 (pc' := 114) rfl (teq hc111).2 ?_
                refine own_iload X34 hx hby at_114 (pc' := 116) rfl rfl ?_
                refine own_ifNo X34 hx hby at_116 (pc' := 119) rfl (by decide) ?_
                refine own_iconst X34 hx hby at_119 (pc' := 120) rfl (z := (1 : Int32)) (by decide) ?_
                refine own_goto X34 hx hby at_120 (pc' := 124) (by decide) ?_
                refine own_istore X34 hx hby at_124 (pc' := 126) rfl (Ls' := #[.val (.int p1), .val (.int p2), .val (.int ((p1 &&& (2147483647 : Int32)) - ((p1 &&& (2147483647 : Int32)) / (5 : Int32)) * (5 : Int32))), .val (.ref r3), .val (.int (204 : Int32)), .val (.int (1 : Int32)), .val (.int (1 : Int32)), .val (.int (1 : Int32)), .unset, .unset]) rfl ?_
                refine own_iload X34 hx hby at_126 (pc' := 128) rfl rfl ?_
                refine own_ifNo X34 hx hby at_128 (pc' := 131) rfl (by decide) ?_
                refine own_iconst X34 hx hby at_131 (pc' := 132) rfl (z := (4 : Int32)) (by decide) ?_
                refine own_goto X34 hx hby at_132 (pc' := 136) (by decide) ?_
                refine own_iload X34 hx hby at_136 (pc' := 138) rfl rfl ?_
                refine own_ifNo X34 hx hby at_138 (pc' := 141) rfl (by decide) ?_
                refine own_iconst X34 hx hby at_141 (pc' := 142) rfl (z := (2 : Int32)) (by decide) ?_
                refine own_goto X34 hx hby at_142 (pc' := 146) (by decide) ?_
                refine own_iadd X34 hx hby at_146 (pc' := 147) rfl (z := (6 : Int32)) (by decide) ?_
                refine own_iload X34 hx hby at_147 (pc' := 149) rfl rfl ?_
                refine own_ifNo X34 hx hby at_149 (pc' := 152) rfl (by decide) ?_
                refine own_iconst X34 hx hby at_152 (pc' := 153) rfl (z := (1 : Int32)) (by decide) ?_
                refine own_goto X34 hx hby at_153 (pc' := 157) (by decide) ?_
                refine own_iadd X34 hx hby at_157 (pc' := 158) rfl (z := (7 : Int32)) (by decide) ?_
                refine own_istore X34 hx hby at_158 (pc' := 160) rfl (Ls' := #[.val (.int p1), .val (.int p2), .val (.int ((p1 &&& (2147483647 : Int32)) - ((p1 &&& (2147483647 : Int32)) / (5 : Int32)) * (5 : Int32))), .val (.ref r3), .val (.int (204 : Int32)), .val (.int (1 : Int32)), .val (.int (1 : Int32)), .val (.int (1 : Int32)), .val (.int (7 : Int32)), .unset]) rfl ?_
                refine own_iload X34 hx hby at_160 (pc' := 162) rfl rfl ?_
                refine own_iload X34 hx hby at_162 (pc' := 164) rfl rfl ?_
                refine own_ishr X34 hx hby at_164 (pc' := 165) rfl (z := (1 : Int32)) (by decide) ?_
                refine own_iconst X34 hx hby at_165 (pc' := 166) rfl (z := (1 : Int32)) (by decide) ?_
                refine own_iand X34 hx hby at_166 (pc' := 167) rfl (z := (1 : Int32)) (by decide) ?_
                refine own_ifNo X34 hx hby at_167 (pc' := 170) rfl (by decide) ?_
                refine own_iconst X34 hx hby at_170 (pc' := 171) rfl (z := (1 : Int32)) (by decide) ?_
                refine own_goto X34 hx hby at_171 (pc' := 175) (by decide) ?_
                refine own_istore X34 hx hby at_175 (pc' := 177) rfl (Ls' := #[.val (.int p1), .val (.int p2), .val (.int ((p1 &&& (2147483647 : Int32)) - ((p1 &&& (2147483647 : Int32)) / (5 : Int32)) * (5 : Int32))), .val (.ref r3), .val (.int (204 : Int32)), .val (.int (1 : Int32)), .val (.int (1 : Int32)), .val (.int (1 : Int32)), .val (.int (7 : Int32)), .val (.int (1 : Int32))]) rfl ?_
                refine own_aloadN X34 hx hby at_177 (pc' := 178) rfl rfl rfl ?_
                refine own_iload X34 hx hby at_178 (pc' := 180) rfl rfl ?_
                refine own_iload X34 hx hby at_180 (pc' := 182) rfl rfl ?_
                refine own_iload X34 hx hby at_182 (pc' := 184) rfl rfl ?_
                refine own_callV X34 hx hZ (rm_t3 l Z a0 hw [] r3 (1 : Int32) (1 : Int32) (1 : Int32) h0 n0 F3 E3) hown (hw _ (List.mem_of_getElem? (i := 4) rfl)) (hw _ (List.mem_of_getElem? (i := 5) rfl)) (hw _ (List.mem_of_getElem? (i := 7) rfl)) (hw _ (List.mem_of_getElem? (i := 6) rfl)) (hw _ (List.mem_of_getElem? (i := 8) rfl)) (hw _ (List.mem_of_getElem? (i := 2) rfl)) (by decide) E3 (W := 0) (by decide) (by decide) (by rw [hml]; rfl) (argsL := [(.int (1 : Int32)), (.int (1 : Int32)), (.int (1 : Int32))]) (rest := []) rfl (lenOf own_pd1 rfl) rfl (Nat.le_of_eq rfl) (hb hby at_184) e34 (by decide) (by decide) ?_
                intro v41 T41 L41 X41 hQ41
                obtain ⟨hv41, N41q, e41⟩ := hQ41
                rw [show own_ti (3 : Int32) (1 : Int32) (1 : Int32) (1 : Int32) = (1 : Int32) from by decide] at hv41
                subst hv41
                have N41 := Fr.app N0 N41q
                show own_Go p.tables e below (T41.setTop (mkF m 187 #[.val (.int p1), .val (.int p2), .val (.int ((p1 &&& (2147483647 : Int32)) - ((p1 &&& (2147483647 : Int32)) / (5 : Int32)) * (5 : Int32))), .val (.ref r3), .val (.int (204 : Int32)), .val (.int (1 : Int32)), .val (.int (1 : Int32)), .val (.int (1 : Int32)), .val (.int (7 : Int32)), .val (.int (1 : Int32))] [(.int (1 : Int32))])) _
                refine own_iload X41 hx hby at_187 (pc' := 189) rfl rfl ?_
                refine own_icmpNo X41 hx hby at_189 (pc' := 192) rfl (by decide) ?_
                refine own_iconst X41 hx hby at_192 (pc' := 193) rfl (z := (1 : Int32)) (by decide) ?_
                refine own_goto X41 hx hby at_193 (pc' := 197) (by decide) ?_
                exact own_retZ (t := .boolean) X41 hx hret (by simp) (hb hby at_197) hlk (by decide) (by decide) ⟨congrArg (fun z => some (Value.int z)) (own_nar1), N41⟩
              · skip
                refine own_ifYes X34 hx hby at_111 (pc' := 119) (by decide) (feq hc111).2 ?_
                refine own_iconst X34 hx hby at_119 (pc' := 120) rfl (z := (1 : Int32)) (by decide) ?_
                refine own_goto X34 hx hby at_120 (pc' := 124) (by decide) ?_
                refine own_istore X34 hx hby at_124 (pc' := 126) rfl (Ls' := #[.val (.int p1), .val (.int p2), .val (.int ((p1 &&& (2147483647 : Int32)) - ((p1 &&& (2147483647 : Int32)) / (5 : Int32)) * (5 : Int32))), .val (.ref r3), .val (.int (204 : Int32)), .val (.int (1 : Int32)), .val (.int (1 : Int32)), .val (.int (1 : Int32)), .unset, .unset]) rfl ?_
                refine own_iload X34 hx hby at_126 (pc' := 128) rfl rfl ?_
                refine own_ifNo X34 hx hby at_128 (pc' := 131) rfl (by decide) ?_
                refine own_iconst X34 hx hby at_131 (pc' := 132) rfl (z := (4 : Int32)) (by decide) ?_
                refine own_goto X34 hx hby at_132 (pc' := 136) (by decide) ?_
                refine own_iload X34 hx hby at_136 (pc' := 138) rfl rfl ?_
                refine own_ifNo X34 hx hby at_138 (pc' := 141) rfl (by decide) ?_
                refine own_iconst X34 hx hby at_141 (pc' := 142) rfl (z := (2 : Int32)) (by decide) ?_
                refine own_goto X34 hx hby at_142 (pc' := 146) (by decide) ?_
                refine own_iadd X34 hx hby at_146 (pc' := 147) rfl (z := (6 : Int32)) (by decide) ?_
                refine own_iload X34 hx hby at_147 (pc' := 149) rfl rfl ?_
                refine own_ifNo X34 hx hby at_149 (pc' := 152) rfl (by decide) ?_
                refine own_iconst X34 hx hby at_152 (pc' := 153) rfl (z := (1 : Int32)) (by decide) ?_
                refine own_goto X34 hx hby at_153 (pc' := 157) (by decide) ?_
                refine own_iadd X34 hx hby at_157 (pc' := 158) rfl (z := (7 : Int32)) (by decide) ?_
                refine own_istore X34 hx hby at_158 (pc' := 160) rfl (Ls' := #[.val (.int p1), .val (.int p2), .val (.int ((p1 &&& (2147483647 : Int32)) - ((p1 &&& (2147483647 : Int32)) / (5 : Int32)) * (5 : Int32))), .val (.ref r3), .val (.int (204 : Int32)), .val (.int (1 : Int32)), .val (.int (1 : Int32)), .val (.int (1 : Int32)), .val (.int (7 : Int32)), .unset]) rfl ?_
                refine own_iload X34 hx hby at_160 (pc' := 162) rfl rfl ?_
                refine own_iload X34 hx hby at_162 (pc' := 164) rfl rfl ?_
                refine own_ishr X34 hx hby at_164 (pc' := 165) rfl (z := (1 : Int32)) (by decide) ?_
                refine own_iconst X34 hx hby at_165 (pc' := 166) rfl (z := (1 : Int32)) (by decide) ?_
                refine own_iand X34 hx hby at_166 (pc' := 167) rfl (z := (1 : Int32)) (by decide) ?_
                refine own_ifNo X34 hx hby at_167 (pc' := 170) rfl (by decide) ?_
                refine own_iconst X34 hx hby at_170 (pc' := 171) rfl (z := (1 : Int32)) (by decide) ?_
                refine own_goto X34 hx hby at_171 (pc' := 175) (by decide) ?_
                refine own_istore X34 hx hby at_175 (pc' := 177) rfl (Ls' := #[.val (.int p1), .val (.int p2), .val (.int ((p1 &&& (2147483647 : Int32)) - ((p1 &&& (2147483647 : Int32)) / (5 : Int32)) * (5 : Int32))), .val (.ref r3), .val (.int (204 : Int32)), .val (.int (1 : Int32)), .val (.int (1 : Int32)), .val (.int (1 : Int32)), .val (.int (7 : Int32)), .val (.int (1 : Int32))]) rfl ?_
                refine own_aloadN X34 hx hby at_177 (pc' := 178) rfl rfl rfl ?_
                refine own_iload X34 hx hby at_178 (pc' := 180) rfl rfl ?_
                refine own_iload X34 hx hby at_180 (pc' := 182) rfl rfl ?_
                refine own_iload X34 hx hby at_182 (pc' := 184) rfl rfl ?_
                refine own_callV X34 hx hZ (rm_t3 l Z a0 hw [] r3 (1 : Int32) (1 : Int32) (1 : Int32) h0 n0 F3 E3) hown (hw _ (List.mem_of_getElem? (i := 4) rfl)) (hw _ (List.mem_of_getElem? (i := 5) rfl)) (hw _ (List.mem_of_getElem? (i := 7) rfl)) (hw _ (List.mem_of_getElem? (i := 6) rfl)) (hw _ (List.mem_of_getElem? (i := 8) rfl)) (hw _ (List.mem_of_getElem? (i := 2) rfl)) (by decide) E3 (W := 0) (by decide) (by decide) (by rw [hml]; rfl) (argsL := [(.int (1 : Int32)), (.int (1 : Int32)), (.int (1 : Int32))]) (rest := []) rfl (lenOf own_pd1 rfl) rfl (Nat.le_of_eq rfl) (hb hby at_184) e34 (by decide) (by decide) ?_
                intro v42 T42 L42 X42 hQ42
                obtain ⟨hv42, N42q, e42⟩ := hQ42
                rw [show own_ti (3 : Int32) (1 : Int32) (1 : Int32) (1 : Int32) = (1 : Int32) from by decide] at hv42
                subst hv42
                have N42 := Fr.app N0 N42q
                show own_Go p.tables e below (T42.setTop (mkF m 187 #[.val (.int p1), .val (.int p2), .val (.int ((p1 &&& (2147483647 : Int32)) - ((p1 &&& (2147483647 : Int32)) / (5 : Int32)) * (5 : Int32))), .val (.ref r3), .val (.int (204 : Int32)), .val (.int (1 : Int32)), .val (.int (1 : Int32)), .val (.int (1 : Int32)), .val (.int (7 : Int32)), .val (.int (1 : Int32))] [(.int (1 : Int32))])) _
                refine own_iload X42 hx hby at_187 (pc' := 189) rfl rfl ?_
                refine own_icmpNo X42 hx hby at_189 (pc' := 192) rfl (by decide) ?_
                refine own_iconst X42 hx hby at_192 (pc' := 193) rfl (z := (1 : Int32)) (by decide) ?_
                refine own_goto X42 hx hby at_193 (pc' := 197) (by decide) ?_
                exact own_retZ (t := .boolean) X42 hx hret (by simp) (hb hby at_197) hlk (by decide) (by decide) ⟨congrArg (fun z => some (Value.int z)) (own_nar1), N42⟩
        · skip
          refine own_icmpYes X0 hx hby at_59 (pc' := 74) (by decide) (feq hc59).2 ?_
          refine own_getS X0 hx hby at_74 (pc' := 77) rfl hZ hown (host := "") (Or.inl (hw _ (List.mem_of_getElem? (i := 18) rfl))) Via.refl e0 S4 ?_
          intro T43 X43 e43
          refine own_astoreN X43 hx hby at_77 (pc' := 78) rfl rfl (Ls' := #[.val (.int p1), .val (.int p2), .val (.int ((p1 &&& (2147483647 : Int32)) - ((p1 &&& (2147483647 : Int32)) / (5 : Int32)) * (5 : Int32))), .val (.ref r4), .unset, .unset, .unset, .unset, .unset, .unset]) rfl ?_
          refine own_bipush X43 hx hby at_78 (pc' := 80) rfl (z := (68 : Int32)) (by decide) ?_
          refine own_istore X43 hx hby at_80 (pc' := 82) rfl (Ls' := #[.val (.int p1), .val (.int p2), .val (.int ((p1 &&& (2147483647 : Int32)) - ((p1 &&& (2147483647 : Int32)) / (5 : Int32)) * (5 : Int32))), .val (.ref r4), .val (.int (68 : Int32)), .unset, .unset, .unset, .unset, .unset]) rfl ?_
          refine own_iloadN X43 hx hby at_82 (pc' := 83) rfl rfl ?_
          refine own_iconst X43 hx hby at_83 (pc' := 84) rfl (z := (4 : Int32)) (by decide) ?_
          refine own_iand X43 hx hby at_84 (pc' := 85) rfl rfl ?_
          by_cases hc85 : (p2 &&& (4 : Int32)) = (0 : Int32)
          · skip
            refine own_ifYes X43 hx hby at_85 (pc' := 92) (by decide) (teq hc85).1 ?_
            refine own_iconst X43 hx hby at_92 (pc' := 93) rfl (z := (0 : Int32)) (by decide) ?_
            refine own_istore X43 hx hby at_93 (pc' := 95) rfl (Ls' := #[.val (.int p1), .val (.int p2), .val (.int ((p1 &&& (2147483647 : Int32)) - ((p1 &&& (2147483647 : Int32)) / (5 : Int32)) * (5 : Int32))), .val (.ref r4), .val (.int (68 : Int32)), .val (.int (0 : Int32)), .unset, .unset, .unset, .unset]) rfl ?_
            refine own_iloadN X43 hx hby at_95 (pc' := 96) rfl rfl ?_
            refine own_iconst X43 hx hby at_96 (pc' := 97) rfl (z := (1 : Int32)) (by decide) ?_
            refine own_iand X43 hx hby at_97 (pc' := 98) rfl rfl ?_
            by_cases hc98 : (p2 &&& (1 : Int32)) = (0 : Int32)
            · skip
              refine own_ifYes X43 hx hby at_98 (pc' := 105) (by decide) (teq hc98).1 ?_
              refine own_iconst X43 hx hby at_105 (pc' := 106) rfl (z := (0 : Int32)) (by decide) ?_
              refine own_istore X43 hx hby at_106 (pc' := 108) rfl (Ls' := #[.val (.int p1), .val (.int p2), .val (.int ((p1 &&& (2147483647 : Int32)) - ((p1 &&& (2147483647 : Int32)) / (5 : Int32)) * (5 : Int32))), .val (.ref r4), .val (.int (68 : Int32)), .val (.int (0 : Int32)), .val (.int (0 : Int32)), .unset, .unset, .unset]) rfl ?_
              refine own_iloadN X43 hx hby at_108 (pc' := 109) rfl rfl ?_
              refine own_iconst X43 hx hby at_109 (pc' := 110) rfl (z := (2 : Int32)) (by decide) ?_
              refine own_iand X43 hx hby at_110 (pc' := 111) rfl rfl ?_
              by_cases hc111 : (p2 &&& (2 : Int32)) = (0 : Int32)
              · skip
                refine own_ifNo X43 hx hby at_111 (pc' := 114) rfl (teq hc111).2 ?_
                refine own_iload X43 hx hby at_114 (pc' := 116) rfl rfl ?_
                refine own_ifYes X43 hx hby at_116 (pc' := 123) (by decide) (by decide) ?_
                refine own_iconst X43 hx hby at_123 (pc' := 124) rfl (z := (0 : Int32)) (by decide) ?_
                refine own_istore X43 hx hby at_124 (pc' := 126) rfl (Ls' := #[.val (.int p1), .val (.int p2), .val (.int ((p1 &&& (2147483647 : Int32)) - ((p1 &&& (2147483647 : Int32)) / (5 : Int32)) * (5 : Int32))), .val (.ref r4), .val (.int (68 : Int32)), .val (.int (0 : Int32)), .val (.int (0 : Int32)), .val (.int (0 : Int32)), .unset, .unset]) rfl ?_
                refine own_iload X43 hx hby at_126 (pc' := 128) rfl rfl ?_
                refine own_ifYes X43 hx hby at_128 (pc' := 135) (by decide) (by decide) ?_
                refine own_iconst X43 hx hby at_135 (pc' := 136) rfl (z := (0 : Int32)) (by decide) ?_
                refine own_iload X43 hx hby at_136 (pc' := 138) rfl rfl ?_
                refine own_ifYes X43 hx hby at_138 (pc' := 145) (by decide) (by decide) ?_
                refine own_iconst X43 hx hby at_145 (pc' := 146) rfl (z := (0 : Int32)) (by decide) ?_
                refine own_iadd X43 hx hby at_146 (pc' := 147) rfl (z := (0 : Int32)) (by decide) ?_
                refine own_iload X43 hx hby at_147 (pc' := 149) rfl rfl ?_
                refine own_ifYes X43 hx hby at_149 (pc' := 156) (by decide) (by decide) ?_
                refine own_iconst X43 hx hby at_156 (pc' := 157) rfl (z := (0 : Int32)) (by decide) ?_
                refine own_iadd X43 hx hby at_157 (pc' := 158) rfl (z := (0 : Int32)) (by decide) ?_
                refine own_istore X43 hx hby at_158 (pc' := 160) rfl (Ls' := #[.val (.int p1), .val (.int p2), .val (.int ((p1 &&& (2147483647 : Int32)) - ((p1 &&& (2147483647 : Int32)) / (5 : Int32)) * (5 : Int32))), .val (.ref r4), .val (.int (68 : Int32)), .val (.int (0 : Int32)), .val (.int (0 : Int32)), .val (.int (0 : Int32)), .val (.int (0 : Int32)), .unset]) rfl ?_
                refine own_iload X43 hx hby at_160 (pc' := 162) rfl rfl ?_
                refine own_iload X43 hx hby at_162 (pc' := 164) rfl rfl ?_
                refine own_ishr X43 hx hby at_164 (pc' := 165) rfl (z := (68 : Int32)) (by decide) ?_
                refine own_iconst X43 hx hby at_165 (pc' := 166) rfl (z := (1 : Int32)) (by decide) ?_
                refine own_iand X43 hx hby at_166 (pc' := 167) rfl (z := (0 : Int32)) (by decide) ?_
                refine own_ifYes X43 hx hby at_167 (pc' := 174) (by decide) (by decide) ?_
                refine own_iconst X43 hx hby at_174 (pc' := 175) rfl (z := (0 : Int32)) (by decide) ?_
                refine own_istore X43 hx hby at_175 (pc' := 177) rfl (Ls' := #[.val (.int p1), .val (.int p2), .val (.int ((p1 &&& (2147483647 : Int32)) - ((p1 &&& (2147483647 : Int32)) / (5 : Int32)) * (5 : Int32))), .val (.ref r4), .val (.int (68 : Int32)), .val (.int (0 : Int32)), .val (.int (0 : Int32)), .val (.int (0 : Int32)), .val (.int (0 : Int32)), .val (.int (0 : Int32))]) rfl ?_
                refine own_aloadN X43 hx hby at_177 (pc' := 178) rfl rfl rfl ?_
                refine own_iload X43 hx hby at_178 (pc' := 180) rfl rfl ?_
                refine own_iload X43 hx hby at_180 (pc' := 182) rfl rfl ?_
                refine own_iload X43 hx hby at_182 (pc' := 184) rfl rfl ?_
                refine own_callV X43 hx hZ (rm_t4 l Z a0 hw [] r4 (0 : Int32) (0 : Int32) (0 : Int32) h0 n0 F4 E4) hown (hw _ (List.mem_of_getElem? (i := 4) rfl)) (hw _ (List.mem_of_getElem? (i := 5) rfl)) (hw _ (List.mem_of_getElem? (i := 7) rfl)) (hw _ (List.mem_of_getElem? (i := 6) rfl)) (hw _ (List.mem_of_getElem? (i := 8) rfl)) (hw _ (List.mem_of_getElem? (i := 2) rfl)) (by decide) E4 (W := 0) (by decide) (by decide) (by rw [hml]; rfl) (argsL := [(.int (0 : Int32)), (.int (0 : Int32)), (.int (0 : Int32))]) (rest := []) rfl (lenOf own_pd1 rfl) rfl (Nat.le_of_eq rfl) (hb hby at_184) e43 (by decide) (by decide) ?_
                intro v44 T44 L44 X44 hQ44
                obtain ⟨hv44, N44q, e44⟩ := hQ44
                rw [show own_ti (4 : Int32) (0 : Int32) (0 : Int32) (0 : Int32) = (0 : Int32) from by decide] at hv44
                subst hv44
                have N44 := Fr.app N0 N44q
                show own_Go p.tables e below (T44.setTop (mkF m 187 #[.val (.int p1), .val (.int p2), .val (.int ((p1 &&& (2147483647 : Int32)) - ((p1 &&& (2147483647 : Int32)) / (5 : Int32)) * (5 : Int32))), .val (.ref r4), .val (.int (68 : Int32)), .val (.int (0 : Int32)), .val (.int (0 : Int32)), .val (.int (0 : Int32)), .val (.int (0 : Int32)), .val (.int (0 : Int32))] [(.int (0 : Int32))])) _
                refine own_iload X44 hx hby at_187 (pc' := 189) rfl rfl ?_
                refine own_icmpNo X44 hx hby at_189 (pc' := 192) rfl (by decide) ?_
                refine own_iconst X44 hx hby at_192 (pc' := 193) rfl (z := (1 : Int32)) (by decide) ?_
                refine own_goto X44 hx hby at_193 (pc' := 197) (by decide) ?_
                exact own_retZ (t := .boolean) X44 hx hret (by simp) (hb hby at_197) hlk (by decide) (by decide) ⟨congrArg (fun z => some (Value.int z)) (own_nar1), N44⟩
              · skip
                refine own_ifYes X43 hx hby at_111 (pc' := 119) (by decide) (feq hc111).2 ?_
                refine own_iconst X43 hx hby at_119 (pc' := 120) rfl (z := (1 : Int32)) (by decide) ?_
                refine own_goto X43 hx hby at_120 (pc' := 124) (by decide) ?_
                refine own_istore X43 hx hby at_124 (pc' := 126) rfl (Ls' := #[.val (.int p1), .val (.int p2), .val (.int ((p1 &&& (2147483647 : Int32)) - ((p1 &&& (2147483647 : Int32)) / (5 : Int32)) * (5 : Int32))), .val (.ref r4), .val (.int (68 : Int32)), .val (.int (0 : Int32)), .val (.int (0 : Int32)), .val (.int (1 : Int32)), .unset, .unset]) rfl ?_
                refine own_iload X43 hx hby at_126 (pc' := 128) rfl rfl ?_
                refine own_ifYes X43 hx hby at_128 (pc' := 135) (by decide) (by decide) ?_
                refine own_iconst X43 hx hby at_135 (pc' := 136) rfl (z := (0 : Int32)) (by decide) ?_
                refine own_iload X43 hx hby at_136 (pc' := 138) rfl rfl ?_
                refine own_ifNo X43 hx hby at_138 (pc' := 141) rfl (by decide) ?_
                refine own_iconst X43 hx hby at_141 (pc' := 142) rfl (z := (2 : Int32)) (by decide) ?_
                refine own_goto X43 hx hby at_142 (pc' := 146) (by decide) ?_
                refine own_iadd X43 hx hby at_146 (pc' := 147) rfl (z := (2 : Int32)) (by decide) ?_
                refine own_iload X43 hx hby at_147 (pc' := 149) rfl rfl ?_
                refine own_ifYes X43 hx hby at_149 (pc' := 156) (by decide) (by decide) ?_
                refine own_iconst X43 hx hby at_156 (pc' := 157) rfl (z := (0 : Int32)) (by decide) ?_
                refine own_iadd X43 hx hby at_157 (pc' := 158) rfl (z := (2 : Int32)) (by decide) ?_
                refine own_istore X43 hx hby at_158 (pc' := 160) rfl (Ls' := #[.val (.int p1), .val (.int p2), .val (.int ((p1 &&& (2147483647 : Int32)) - ((p1 &&& (2147483647 : Int32)) / (5 : Int32)) * (5 : Int32))), .val (.ref r4), .val (.int (68 : Int32)), .val (.int (0 : Int32)), .val (.int (0 : Int32)), .val (.int (1 : Int32)), .val (.int (2 : Int32)), .unset]) rfl ?_
                refine own_iload X43 hx hby at_160 (pc' := 162) rfl rfl ?_
                refine own_iload X43 hx hby at_162 (pc' := 164) rfl rfl ?_
                refine own_ishr X43 hx hby at_164 (pc' := 165) rfl (z := (17 : Int32)) (by decide) ?_
                refine own_iconst X43 hx hby at_165 (pc' := 166) rfl (z := (1 : Int32)) (by decide) ?_
                refine own_iand X43 hx hby at_166 (pc' := 167) rfl (z := (1 : Int32)) (by decide) ?_
                refine own_ifNo X43 hx hby at_167 (pc' := 170) rfl (by decide) ?_
                refine own_iconst X43 hx hby at_170 (pc' := 171) rfl (z := (1 : Int32)) (by decide) ?_
                refine own_goto X43 hx hby at_171 (pc' := 175) (by decide) ?_
                refine own_istore X43 hx hby at_175 (pc' := 177) rfl (Ls' := #[.val (.int p1), .val (.int p2), .val (.int ((p1 &&& (2147483647 : Int32)) - ((p1 &&& (2147483647 : Int32)) / (5 : Int32)) * (5 : Int32))), .val (.ref r4), .val (.int (68 : Int32)), .val (.int (0 : Int32)), .val (.int (0 : Int32)), .val (.int (1 : Int32)), .val (.int (2 : Int32)), .val (.int (1 : Int32))]) rfl ?_
                refine own_aloadN X43 hx hby at_177 (pc' := 178) rfl rfl rfl ?_
                refine own_iload X43 hx hby at_178 (pc' := 180) rfl rfl ?_
                refine own_iload X43 hx hby at_180 (pc' := 182) rfl rfl ?_
                refine own_iload X43 hx hby at_182 (pc' := 184) rfl rfl ?_
                refine own_callV X43 hx hZ (rm_t4 l Z a0 hw [] r4 (0 : Int32) (1 : Int32) (0 : Int32) h0 n0 F4 E4) hown (hw _ (List.mem_of_getElem? (i := 4) rfl)) (hw _ (List.mem_of_getElem? (i := 5) rfl)) (hw _ (List.mem_of_getElem? (i := 7) rfl)) (hw _ (List.mem_of_getElem? (i := 6) rfl)) (hw _ (List.mem_of_getElem? (i := 8) rfl)) (hw _ (List.mem_of_getElem? (i := 2) rfl)) (by decide) E4 (W := 0) (by decide) (by decide) (by rw [hml]; rfl) (argsL := [(.int (0 : Int32)), (.int (1 : Int32)), (.int (0 : Int32))]) (rest := []) rfl (lenOf own_pd1 rfl) rfl (Nat.le_of_eq rfl) (hb hby at_184) e43 (by decide) (by decide) ?_
                intro v45 T45 L45 X45 hQ45
                obtain ⟨hv45, N45q, e45⟩ := hQ45
                rw [show own_ti (4 : Int32) (0 : Int32) (1 : Int32) (0 : Int32) = (1 : Int32) from by decide] at hv45
                subst hv45
                have N45 := Fr.app N0 N45q
                show own_Go p.tables e below (T45.setTop (mkF m 187 #[.val (.int p1), .val (.int p2), .val (.int ((p1 &&& (2147483647 : Int32)) - ((p1 &&& (2147483647 : Int32)) / (5 : Int32)) * (5 : Int32))), .val (.ref r4), .val (.int (68 : Int32)), .val (.int (0 : Int32)), .val (.int (0 : Int32)), .val (.int (1 : Int32)), .val (.int (2 : Int32)), .val (.int (1 : Int32))] [(.int (1 : Int32))])) _
                refine own_iload X45 hx hby at_187 (pc' := 189) rfl rfl ?_
                refine own_icmpNo X45 hx hby at_189 (pc' := 192) rfl (by decide) ?_
                refine own_iconst X45 hx hby at_192 (pc' := 193) rfl (z := (1 : Int32)) (by decide) ?_
                refine own_goto X45 hx hby at_193 (pc' := 197) (by decide) ?_
                exact own_retZ (t := .boolean) X45 hx hret (by simp) (hb hby at_197) hlk (by decide) (by decide) ⟨congrArg (fun z => some (Value.int z)) (own_nar1), N45⟩
            · skip
              refine own_ifNo X43 hx hby at_98 (pc' := 101) rfl (feq hc98).1 ?_
              refine own_iconst X43 hx hby at_101 (pc' := 102) rfl (z := (1 : Int32)) (by decide) ?_
              refine own_goto X43 hx hby at_102 (pc' := 106) (by decide) ?_
              refine own_istore X43 hx hby at_106 (pc' := 108) rfl (Ls' := #[.val (.int p1), .val (.int p2), .val (.int ((p1 &&& (2147483647 : Int32)) - ((p1 &&& (2147483647 : Int32)) / (5 : Int32)) * (5 : Int32))), .val (.ref r4), .val (.int (68 : Int32)), .val (.int (0 : Int32)), .val (.int (1 : Int32)), .unset, .unset, .unset]) rfl ?_
              refine own_iloadN X43 hx hby at_108 (pc' := 109) rfl rfl ?_
              refine own_iconst X43 hx hby at_109 (pc' := 110) rfl (z := (2 : Int32)) (by decide) ?_
              refine own_iand X43 hx hby at_110 (pc' := 111) rfl rfl ?_
              by_cases hc111 : (p2 &&& (2 : Int32)) = (0 : Int32)
              · skip
                refine own_ifNo X43 hx hby at_111 (pc' := 114) rfl (teq hc111).2 ?_
                refine own_iload X43 hx hby at_114 (pc' := 116) rfl rfl ?_
                refine own_ifNo X43 hx hby at_116 (pc' := 119) rfl (by decide) ?_
                refine own_iconst X43 hx hby at_119 (pc' := 120) rfl (z := (1 : Int32)) (by decide) ?_
                refine own_goto X43 hx hby at_120 (pc' := 124) (by decide) ?_
                refine own_istore X43 hx hby at_124 (pc' := 126) rfl (Ls' := #[.val (.int p1), .val (.int p2), .val (.int ((p1 &&& (2147483647 : Int32)) - ((p1 &&& (2147483647 : Int32)) / (5 : Int32)) * (5 : Int32))), .val (.ref r4), .val (.int (68 : Int32)), .val (.int (0 : Int32)), .val (.int (1 : Int32)), .val (.int (1 : Int32)), .unset, .unset]) rfl ?_
                refine own_iload X43 hx hby at_126 (pc' := 128) rfl rfl ?_
                refine own_ifYes X43 hx hby at_128 (pc' := 135) (by decide) (by decide) ?_
                refine own_iconst X43 hx hby at_135 (pc' := 136) rfl (z := (0 : Int32)) (by decide) ?_
                refine own_iload X43 hx hby at_136 (pc' := 138) rfl rfl ?_
                refine own_ifNo X43 hx hby at_138 (pc' := 141) rfl (by decide) ?_
                refine own_iconst X43 hx hby at_141 (pc' := 142) rfl (z := (2 : Int32)) (by decide) ?_
                refine own_goto X43 hx hby at_142 (pc' := 146) (by decide) ?_
                refine own_iadd X43 hx hby at_146 (pc' := 147) rfl (z := (2 : Int32)) (by decide) ?_
                refine own_iload X43 hx hby at_147 (pc' := 149) rfl rfl ?_
                refine own_ifNo X43 hx hby at_149 (pc' := 152) rfl (by decide) ?_
                refine own_iconst X43 hx hby at_152 (pc' := 153) rfl (z := (1 : Int32)) (by decide) ?_
                refine own_goto X43 hx hby at_153 (pc' := 157) (by decide) ?_
                refine own_iadd X43 hx hby at_157 (pc' := 158) rfl (z := (3 : Int32)) (by decide) ?_
                refine own_istore X43 hx hby at_158 (pc' := 160) rfl (Ls' := #[.val (.int p1), .val (.int p2), .val (.int ((p1 &&& (2147483647 : Int32)) - ((p1 &&& (2147483647 : Int32)) / (5 : Int32)) * (5 : Int32))), .val (.ref r4), .val (.int (68 : Int32)), .val (.int (0 : Int32)), .val (.int (1 : Int32)), .val (.int (1 : Int32)), .val (.int (3 : Int32)), .unset]) rfl ?_
                refine own_iload X43 hx hby at_160 (pc' := 162) rfl rfl ?_
                refine own_iload X43 hx hby at_162 (pc' := 164) rfl rfl ?_
                refine own_ishr X43 hx hby at_164 (pc' := 165) rfl (z := (8 : Int32)) (by decide) ?_
                refine own_iconst X43 hx hby at_165 (pc' := 166) rfl (z := (1 : Int32)) (by decide) ?_
                refine own_iand X43 hx hby at_166 (pc' := 167) rfl (z := (0 : Int32)) (by decide) ?_
                refine own_ifYes X43 hx hby at_167 (pc' := 174) (by decide) (by decide) ?_
                refine own_iconst X43 hx hby at_174 (pc' := 175) rfl (z := (0 : Int32)) (by decide) ?_
                refine own_istore X43 hx hby at_175 (pc' := 177) rfl (Ls' := #[.val (.int p1), .val (.int p2), .val (.int ((p1 &&& (2147483647 : Int32)) - ((p1 &&& (2147483647 : Int32)) / (5 : Int32)) * (5 : Int32))), .val (.ref r4), .val (.int (68 : Int32)), .val (.int (0 : Int32)), .val (.int (1 : Int32)), .val (.int (1 : Int32)), .val (.int (3 : Int32)), .val (.int (0 : Int32))]) rfl ?_
                refine own_aloadN X43 hx hby at_177 (pc' := 178) rfl rfl rfl ?_
                refine own_iload X43 hx hby at_178 (pc' := 180) rfl rfl ?_
                refine own_iload X43 hx hby at_180 (pc' := 182) rfl rfl ?_
                refine own_iload X43 hx hby at_182 (pc' := 184) rfl rfl ?_
                refine own_callV X43 hx hZ (rm_t4 l Z a0 hw [] r4 (0 : Int32) (1 : Int32) (1 : Int32) h0 n0 F4 E4) hown (hw _ (List.mem_of_getElem? (i := 4) rfl)) (hw _ (List.mem_of_getElem? (i := 5) rfl)) (hw _ (List.mem_of_getElem? (i := 7) rfl)) (hw _ (List.mem_of_getElem? (i := 6) rfl)) (hw _ (List.mem_of_getElem? (i := 8) rfl)) (hw _ (List.mem_of_getElem? (i := 2) rfl)) (by decide) E4 (W := 0) (by decide) (by decide) (by rw [hml]; rfl) (argsL := [(.int (0 : Int32)), (.int (1 : Int32)), (.int (1 : Int32))]) (rest := []) rfl (lenOf own_pd1 rfl) rfl (Nat.le_of_eq rfl) (hb hby at_184) e43 (by decide) (by decide) ?_
                intro v46 T46 L46 X46 hQ46
                obtain ⟨hv46, N46q, e46⟩ := hQ46
                rw [show own_ti (4 : Int32) (0 : Int32) (1 : Int32) (1 : Int32) = (0 : Int32) from by decide] at hv46
                subst hv46
                have N46 := Fr.app N0 N46q
                show own_Go p.tables e below (T46.setTop (mkF m 187 #[.val (.int p1), .val (.int p2), .val (.int ((p1 &&& (2147483647 : Int32)) - ((p1 &&& (2147483647 : Int32)) / (5 : Int32)) * (5 : Int32))), .val (.ref r4), .val (.int (68 : Int32)), .val (.int (0 : Int32)), .val (.int (1 : Int32)), .val (.int (1 : Int32)), .val (.int (3 : Int32)), .val (.int (0 : Int32))] [(.int (0 : Int32))])) _
                refine own_iload X46 hx hby at_187 (pc' := 189) rfl rfl ?_
                refine own_icmpNo X46 hx hby at_189 (pc' := 192) rfl (by decide) ?_
                refine own_iconst X46 hx hby at_192 (pc' := 193) rfl (z := (1 : Int32)) (by decide) ?_
                refine own_goto X46 hx hby at_193 (pc' := 197) (by decide) ?_
                exact own_retZ (t := .boolean) X46 hx hret (by simp) (hb hby at_197) hlk (by decide) (by decide) ⟨congrArg (fun z => some (Value.int z)) (own_nar1), N46⟩
              · skip
                refine own_ifYes X43 hx hby at_111 (pc' := 119) (by decide) (feq hc111).2 ?_
                refine own_iconst X43 hx hby at_119 (pc' := 120) rfl (z := (1 : Int32)) (by decide) ?_
                refine own_goto X43 hx hby at_120 (pc' := 124) (by decide) ?_
                refine own_istore X43 hx hby at_124 (pc' := 126) rfl (Ls' := #[.val (.int p1), .val (.int p2), .val (.int ((p1 &&& (2147483647 : Int32)) - ((p1 &&& (2147483647 : Int32)) / (5 : Int32)) * (5 : Int32))), .val (.ref r4), .val (.int (68 : Int32)), .val (.int (0 : Int32)), .val (.int (1 : Int32)), .val (.int (1 : Int32)), .unset, .unset]) rfl ?_
                refine own_iload X43 hx hby at_126 (pc' := 128) rfl rfl ?_
                refine own_ifYes X43 hx hby at_128 (pc' := 135) (by decide) (by decide) ?_
                refine own_iconst X43 hx hby at_135 (pc' := 136) rfl (z := (0 : Int32)) (by decide) ?_
                refine own_iload X43 hx hby at_136 (pc' := 138) rfl rfl ?_
                refine own_ifNo X43 hx hby at_138 (pc' := 141) rfl (by decide) ?_
                refine own_iconst X43 hx hby at_141 (pc' := 142) rfl (z := (2 : Int32)) (by decide) ?_
                refine own_goto X43 hx hby at_142 (pc' := 146) (by decide) ?_
                refine own_iadd X43 hx hby at_146 (pc' := 147) rfl (z := (2 : Int32)) (by decide) ?_
                refine own_iload X43 hx hby at_147 (pc' := 149) rfl rfl ?_
                refine own_ifNo X43 hx hby at_149 (pc' := 152) rfl (by decide) ?_
                refine own_iconst X43 hx hby at_152 (pc' := 153) rfl (z := (1 : Int32)) (by decide) ?_
                refine own_goto X43 hx hby at_153 (pc' := 157) (by decide) ?_
                refine own_iadd X43 hx hby at_157 (pc' := 158) rfl (z := (3 : Int32)) (by decide) ?_
                refine own_istore X43 hx hby at_158 (pc' := 160) rfl (Ls' := #[.val (.int p1), .val (.int p2), .val (.int ((p1 &&& (2147483647 : Int32)) - ((p1 &&& (2147483647 : Int32)) / (5 : Int32)) * (5 : Int32))), .val (.ref r4), .val (.int (68 : Int32)), .val (.int (0 : Int32)), .val (.int (1 : Int32)), .val (.int (1 : Int32)), .val (.int (3 : Int32)), .unset]) rfl ?_
                refine own_iload X43 hx hby at_160 (pc' := 162) rfl rfl ?_
                refine own_iload X43 hx hby at_162 (pc' := 164) rfl rfl ?_
                refine own_ishr X43 hx hby at_164 (pc' := 165) rfl (z := (8 : Int32)) (by decide) ?_
                refine own_iconst X43 hx hby at_165 (pc' := 166) rfl (z := (1 : Int32)) (by decide) ?_
                refine own_iand X43 hx hby at_166 (pc' := 167) rfl (z := (0 : Int32)) (by decide) ?_
                refine own_ifYes X43 hx hby at_167 (pc' := 174) (by decide) (by decide) ?_
                refine own_iconst X43 hx hby at_174 (pc' := 175) rfl (z := (0 : Int32)) (by decide) ?_
                refine own_istore X43 hx hby at_175 (pc' := 177) rfl (Ls' := #[.val (.int p1), .val (.int p2), .val (.int ((p1 &&& (2147483647 : Int32)) - ((p1 &&& (2147483647 : Int32)) / (5 : Int32)) * (5 : Int32))), .val (.ref r4), .val (.int (68 : Int32)), .val (.int (0 : Int32)), .val (.int (1 : Int32)), .val (.int (1 : Int32)), .val (.int (3 : Int32)), .val (.int (0 : Int32))]) rfl ?_
                refine own_aloadN X43 hx hby at_177 (pc' := 178) rfl rfl rfl ?_
                refine own_iload X43 hx hby at_178 (pc' := 180) rfl rfl ?_
                refine own_iload X43 hx hby at_180 (pc' := 182) rfl rfl ?_
                refine own_iload X43 hx hby at_182 (pc' := 184) rfl rfl ?_
                refine own_callV X43 hx hZ (rm_t4 l Z a0 hw [] r4 (0 : Int32) (1 : Int32) (1 : Int32) h0 n0 F4 E4) hown (hw _ (List.mem_of_getElem? (i := 4) rfl)) (hw _ (List.mem_of_getElem? (i := 5) rfl)) (hw _ (List.mem_of_getElem? (i := 7) rfl)) (hw _ (List.mem_of_getElem? (i := 6) rfl)) (hw _ (List.mem_of_getElem? (i := 8) rfl)) (hw _ (List.mem_of_getElem? (i := 2) rfl)) (by decide) E4 (W := 0) (by decide) (by decide) (by rw [hml]; rfl) (argsL := [(.int (0 : Int32)), (.int (1 : Int32)), (.int (1 : Int32))]) (rest := []) rfl (lenOf own_pd1 rfl) rfl (Nat.le_of_eq rfl) (hb hby at_184) e43 (by decide) (by decide) ?_
                intro v47 T47 L47 X47 hQ47
                obtain ⟨hv47, N47q, e47⟩ := hQ47
                rw [show own_ti (4 : Int32) (0 : Int32) (1 : Int32) (1 : Int32) = (0 : Int32) from by decide] at hv47
                subst hv47
                have N47 := Fr.app N0 N47q
                show own_Go p.tables e below (T47.setTop (mkF m 187 #[.val (.int p1), .val (.int p2), .val (.int ((p1 &&& (2147483647 : Int32)) - ((p1 &&& (2147483647 : Int32)) / (5 : Int32)) * (5 : Int32))), .val (.ref r4), .val (.int (68 : Int32)), .val (.int (0 : Int32)), .val (.int (1 : Int32)), .val (.int (1 : Int32)), .val (.int (3 : Int32)), .val (.int (0 : Int32))] [(.int (0 : Int32))])) _
                refine own_iload X47 hx hby at_187 (pc' := 189) rfl rfl ?_
                refine own_icmpNo X47 hx hby at_189 (pc' := 192) rfl (by decide) ?_
                refine own_iconst X47 hx hby at_192 (pc' := 193) rfl (z := (1 : Int32)) (by decide) ?_
                refine own_goto X47 hx hby at_193 (pc' := 197) (by decide) ?_
                exact own_retZ (t := .boolean) X47 hx hret (by simp) (hb hby at_197) hlk (by decide) (by decide) ⟨congrArg (fun z => some (Value.int z)) (own_nar1), N47⟩
          · skip
            refine own_ifNo X43 hx hby at_85 (pc' := 88) rfl (feq hc85).1 ?_
            refine own_iconst X43 hx hby at_88 (pc' := 89) rfl (z := (1 : Int32)) (by decide) ?_
            refine own_goto X43 hx hby at_89 (pc' := 93) (by decide) ?_
            refine own_istore X43 hx hby at_93 (pc' := 95) rfl (Ls' := #[.val (.int p1), .val (.int p2), .val (.int ((p1 &&& (2147483647 : Int32)) - ((p1 &&& (2147483647 : Int32)) / (5 : Int32)) * (5 : Int32))), .val (.ref r4), .val (.int (68 : Int32)), .val (.int (1 : Int32)), .unset, .unset, .unset, .unset]) rfl ?_
            refine own_iloadN X43 hx hby at_95 (pc' := 96) rfl rfl ?_
            refine own_iconst X43 hx hby at_96 (pc' := 97) rfl (z := (1 : Int32)) (by decide) ?_
            refine own_iand X43 hx hby at_97 (pc' := 98) rfl rfl ?_
            by_cases hc98 : (p2 &&& (1 : Int32)) = (0 : Int32)
            · skip
              refine own_ifYes X43 hx hby at_98 (pc' := 105) (by decide) (teq hc98).1 ?_
              refine own_iconst X43 hx hby at_105 (pc' := 106) rfl (z := (0 : Int32)) (by decide) ?_
              refine own_istore X43 hx hby at_106 (pc' := 108) rfl (Ls' := #[.val (.int p1), .val (.int p2), .val (.int ((p1 &&& (2147483647 : Int32)) - ((p1 &&& (2147483647 : Int32)) / (5 : Int32)) * (5 : Int32))), .val (.ref r4), .val (.int (68 : Int32)), .val (.int (1 : Int32)), .val (.int (0 : Int32)), .unset, .unset, .unset]) rfl ?_
              refine own_iloadN X43 hx hby at_108 (pc' := 109) rfl rfl ?_
              refine own_iconst X43 hx hby at_109 (pc' := 110) rfl (z := (2 : Int32)) (by decide) ?_
              refine own_iand X43 hx hby at_110 (pc' := 111) rfl rfl ?_
              by_cases hc111 : (p2 &&& (2 : Int32)) = (0 : Int32)
              · skip
                refine own_ifNo X43 hx hby at_111 (pc' := 114) rfl (teq hc111).2 ?_
                refine own_iload X43 hx hby at_114 (pc' := 116) rfl rfl ?_
                refine own_ifYes X43 hx hby at_116 (pc' := 123) (by decide) (by decide) ?_
                refine own_iconst X43 hx hby at_123 (pc' := 124) rfl (z := (0 : Int32)) (by decide) ?_
                refine own_istore X43 hx hby at_124 (pc' := 126) rfl (Ls' := #[.val (.int p1), .val (.int p2), .val (.int ((p1 &&& (2147483647 : Int32)) - ((p1 &&& (2147483647 : Int32)) / (5 : Int32)) * (5 : Int32))), .val (.ref r4), .val (.int (68 : Int32)), .val (.int (1 : Int32)), .val (.int (0 : Int32)), .val (.int (0 : Int32)), .unset, .unset]) rfl ?_
                refine own_iload X43 hx hby at_126 (pc' := 128) rfl rfl ?_
                refine own_ifNo X43 hx hby at_128 (pc' := 131) rfl (by decide) ?_
                refine own_iconst X43 hx hby at_131 (pc' := 132) rfl (z := (4 : Int32)) (by decide) ?_
                refine own_goto X43 hx hby at_132 (pc' := 136) (by decide) ?_
                refine own_iload X43 hx hby at_136 (pc' := 138) rfl rfl ?_
                refine own_ifYes X43 hx hby at_138 (pc' := 145) (by decide) (by decide) ?_
                refine own_iconst X43 hx hby at_145 (pc' := 146) rfl (z := (0 : Int32)) (by decide) ?_
                refine own_iadd X43 hx hby at_146 (pc' := 147) rfl (z := (4 : Int32)) (by decide) ?_
                refine own_iload X43 hx hby at_147 (pc' := 149) rfl rfl ?_
                refine own_ifYes X43 hx hby at_149 (pc' := 156) (by decide) (by decide) ?_
                refine own_iconst X43 hx hby at_156 (pc' := 157) rfl (z := (0 : Int32)) (by decide) ?_
                refine own_iadd X43 hx hby at_157 (pc' := 158) rfl (z := (4 : Int32)) (by decide) ?_
                refine own_istore X43 hx hby at_158 (pc' := 160) rfl (Ls' := #[.val (.int p1), .val (.int p2), .val (.int ((p1 &&& (2147483647 : Int32)) - ((p1 &&& (2147483647 : Int32)) / (5 : Int32)) * (5 : Int32))), .val (.ref r4), .val (.int (68 : Int32)), .val (.int (1 : Int32)), .val (.int (0 : Int32)), .val (.int (0 : Int32)), .val (.int (4 : Int32)), .unset]) rfl ?_
                refine own_iload X43 hx hby at_160 (pc' := 162) rfl rfl ?_
                refine own_iload X43 hx hby at_162 (pc' := 164) rfl rfl ?_
                refine own_ishr X43 hx hby at_164 (pc' := 165) rfl (z := (4 : Int32)) (by decide) ?_
                refine own_iconst X43 hx hby at_165 (pc' := 166) rfl (z := (1 : Int32)) (by decide) ?_
                refine own_iand X43 hx hby at_166 (pc' := 167) rfl (z := (0 : Int32)) (by decide) ?_
                refine own_ifYes X43 hx hby at_167 (pc' := 174) (by decide) (by decide) ?_
                refine own_iconst X43 hx hby at_174 (pc' := 175) rfl (z := (0 : Int32)) (by decide) ?_
                refine own_istore X43 hx hby at_175 (pc' := 177) rfl (Ls' := #[.val (.int p1), .val (.int p2), .val (.int ((p1 &&& (2147483647 : Int32)) - ((p1 &&& (2147483647 : Int32)) / (5 : Int32)) * (5 : Int32))), .val (.ref r4), .val (.int (68 : Int32)), .val (.int (1 : Int32)), .val (.int (0 : Int32)), .val (.int (0 : Int32)), .val (.int (4 : Int32)), .val (.int (0 : Int32))]) rfl ?_
                refine own_aloadN X43 hx hby at_177 (pc' := 178) rfl rfl rfl ?_
                refine own_iload X43 hx hby at_178 (pc' := 180) rfl rfl ?_
                refine own_iload X43 hx hby at_180 (pc' := 182) rfl rfl ?_
                refine own_iload X43 hx hby at_182 (pc' := 184) rfl rfl ?_
                refine own_callV X43 hx hZ (rm_t4 l Z a0 hw [] r4 (1 : Int32) (0 : Int32) (0 : Int32) h0 n0 F4 E4) hown (hw _ (List.mem_of_getElem? (i := 4) rfl)) (hw _ (List.mem_of_getElem? (i := 5) rfl)) (hw _ (List.mem_of_getElem? (i := 7) rfl)) (hw _ (List.mem_of_getElem? (i := 6) rfl)) (hw _ (List.mem_of_getElem? (i := 8) rfl)) (hw _ (List.mem_of_getElem? (i := 2) rfl)) (by decide) E4 (W := 0) (by decide) (by decide) (by rw [hml]; rfl) (argsL := [(.int (1 : Int32)), (.int (0 : Int32)), (.int (0 : Int32))]) (rest := []) rfl (lenOf own_pd1 rfl) rfl (Nat.le_of_eq rfl) (hb hby at_184) e43 (by decide) (by decide) ?_
                intro v48 T48 L48 X48 hQ48
                obtain ⟨hv48, N48q, e48⟩ := hQ48
                rw [show own_ti (4 : Int32) (1 : Int32) (0 : Int32) (0 : Int32) = (0 : Int32) from by decide] at hv48
                subst hv48
                have N48 := Fr.app N0 N48q
                show own_Go p.tables e below (T48.setTop (mkF m 187 #[.val (.int p1), .val (.int p2), .val (.int ((p1 &&& (2147483647 : Int32)) - ((p1 &&& (2147483647 : Int32)) / (5 : Int32)) * (5 : Int32))), .val (.ref r4), .val (.int (68 : Int32)), .val (.int (1 : Int32)), .val (.int (0 : Int32)), .val (.int (0 : Int32)), .val (.int (4 : Int32)), .val (.int (0 : Int32))] [(.int (0 : Int32))])) _
                refine own_iload X48 hx hby at_187 (pc' := 189) rfl rfl ?_
                refine own_icmpNo X48 hx hby at_189 (pc' := 192) rfl (by decide) ?_
                refine own_iconst X48 hx hby at_192 (pc' := 193) rfl (z := (1 : Int32)) (by decide) ?_
                refine own_goto X48 hx hby at_193 (pc' := 197) (by decide) ?_
                exact own_retZ (t := .boolean) X48 hx hret (by simp) (hb hby at_197) hlk (by decide) (by decide) ⟨congrArg (fun z => some (Value.int z)) (own_nar1), N48⟩
              · skip
                refine own_ifYes X43 hx hby at_111 (pc' := 119) (by decide) (feq hc111).2 ?_
                refine own_iconst X43 hx hby at_119 (pc' := 120) rfl (z := (1 : Int32)) (by decide) ?_
                refine own_goto X43 hx hby at_120 (pc' := 124) (by decide) ?_
                refine own_istore X43 hx hby at_124 (pc' := 126) rfl (Ls' := #[.val (.int p1), .val (.int p2), .val (.int ((p1 &&& (2147483647 : Int32)) - ((p1 &&& (2147483647 : Int32)) / (5 : Int32)) * (5 : Int32))), .val (.ref r4), .val (.int (68 : Int32)), .val (.int (1 : Int32)), .val (.int (0 : Int32)), .val (.int (1 : Int32)), .unset, .unset]) rfl ?_
                refine own_iload X43 hx hby at_126 (pc' := 128) rfl rfl ?_
                refine own_ifNo X43 hx hby at_128 (pc' := 131) rfl (by decide) ?_
                refine own_iconst X43 hx hby at_131 (pc' := 132) rfl (z := (4 : Int32)) (by decide) ?_
                refine own_goto X43 hx hby at_132 (pc' := 136) (by decide) ?_
                refine own_iload X43 hx hby at_136 (pc' := 138) rfl rfl ?_
                refine own_ifNo X43 hx hby at_138 (pc' := 141) rfl (by decide) ?_
                refine own_iconst X43 hx hby at_141 (pc' := 142) rfl (z := (2 : Int32)) (by decide) ?_
                refine own_goto X43 hx hby at_142 (pc' := 146) (by decide) ?_
                refine own_iadd X43 hx hby at_146 (pc' := 147) rfl (z := (6 : Int32)) (by decide) ?_
                refine own_iload X43 hx hby at_147 (pc' := 149) rfl rfl ?_
                refine own_ifYes X43 hx hby at_149 (pc' := 156) (by decide) (by decide) ?_
                refine own_iconst X43 hx hby at_156 (pc' := 157) rfl (z := (0 : Int32)) (by decide) ?_
                refine own_iadd X43 hx hby at_157 (pc' := 158) rfl (z := (6 : Int32)) (by decide) ?_
                refine own_istore X43 hx hby at_158 (pc' := 160) rfl (Ls' := #[.val (.int p1), .val (.int p2), .val (.int ((p1 &&& (2147483647 : Int32)) - ((p1 &&& (2147483647 : Int32)) / (5 : Int32)) * (5 : Int32))), .val (.ref r4), .val (.int (68 : Int32)), .val (.int (1 : Int32)), .val (.int (0 : Int32)), .val (.int (1 : Int32)), .val (.int (6 : Int32)), .unset]) rfl ?_
                refine own_iload X43 hx hby at_160 (pc' := 162) rfl rfl ?_
                refine own_iload X43 hx hby at_162 (pc' := 164) rfl rfl ?_
                refine own_ishr X43 hx hby at_164 (pc' := 165) rfl (z := (1 : Int32)) (by decide) ?_
                refine own_iconst X43 hx hby at_165 (pc' := 166) rfl (z := (1 : Int32)) (by decide) ?_
                refine own_iand X43 hx hby at_166 (pc' := 167) rfl (z := (1 : Int32)) (by decide) ?_
                refine own_ifNo X43 hx hby at_167 (pc' := 170) rfl (by decide) ?_
                refine own_iconst X43 hx hby at_170 (pc' := 171) rfl (z := (1 : Int32)) (by decide) ?_
                refine own_goto X43 hx hby at_171 (pc' := 175) (by decide) ?_
                refine own_istore X43 hx hby at_175 (pc' := 177) rfl (Ls' := #[.val (.int p1), .val (.int p2), .val (.int ((p1 &&& (2147483647 : Int32)) - ((p1 &&& (2147483647 : Int32)) / (5 : Int32)) * (5 : Int32))), .val (.ref r4), .val (.int (68 : Int32)), .val (.int (1 : Int32)), .val (.int (0 : Int32)), .val (.int (1 : Int32)), .val (.int (6 : Int32)), .val (.int (1 : Int32))]) rfl ?_
                refine own_aloadN X43 hx hby at_177 (pc' := 178) rfl rfl rfl ?_
                refine own_iload X43 hx hby at_178 (pc' := 180) rfl rfl ?_
                refine own_iload X43 hx hby at_180 (pc' := 182) rfl rfl ?_
                refine own_iload X43 hx hby at_182 (pc' := 184) rfl rfl ?_
                refine own_callV X43 hx hZ (rm_t4 l Z a0 hw [] r4 (1 : Int32) (1 : Int32) (0 : Int32) h0 n0 F4 E4) hown (hw _ (List.mem_of_getElem? (i := 4) rfl)) (hw _ (List.mem_of_getElem? (i := 5) rfl)) (hw _ (List.mem_of_getElem? (i := 7) rfl)) (hw _ (List.mem_of_getElem? (i := 6) rfl)) (hw _ (List.mem_of_getElem? (i := 8) rfl)) (hw _ (List.mem_of_getElem? (i := 2) rfl)) (by decide) E4 (W := 0) (by decide) (by decide) (by rw [hml]; rfl) (argsL := [(.int (1 : Int32)), (.int (1 : Int32)), (.int (0 : Int32))]) (rest := []) rfl (lenOf own_pd1 rfl) rfl (Nat.le_of_eq rfl) (hb hby at_184) e43 (by decide) (by decide) ?_
                intro v49 T49 L49 X49 hQ49
                obtain ⟨hv49, N49q, e49⟩ := hQ49
                rw [show own_ti (4 : Int32) (1 : Int32) (1 : Int32) (0 : Int32) = (1 : Int32) from by decide] at hv49
                subst hv49
                have N49 := Fr.app N0 N49q
                show own_Go p.tables e below (T49.setTop (mkF m 187 #[.val (.int p1), .val (.int p2), .val (.int ((p1 &&& (2147483647 : Int32)) - ((p1 &&& (2147483647 : Int32)) / (5 : Int32)) * (5 : Int32))), .val (.ref r4), .val (.int (68 : Int32)), .val (.int (1 : Int32)), .val (.int (0 : Int32)), .val (.int (1 : Int32)), .val (.int (6 : Int32)), .val (.int (1 : Int32))] [(.int (1 : Int32))])) _
                refine own_iload X49 hx hby at_187 (pc' := 189) rfl rfl ?_
                refine own_icmpNo X49 hx hby at_189 (pc' := 192) rfl (by decide) ?_
                refine own_iconst X49 hx hby at_192 (pc' := 193) rfl (z := (1 : Int32)) (by decide) ?_
                refine own_goto X49 hx hby at_193 (pc' := 197) (by decide) ?_
                exact own_retZ (t := .boolean) X49 hx hret (by simp) (hb hby at_197) hlk (by decide) (by decide) ⟨congrArg (fun z => some (Value.int z)) (own_nar1), N49⟩
            · skip
              refine own_ifNo X43 hx hby at_98 (pc' := 101) rfl (feq hc98).1 ?_
              refine own_iconst X43 hx hby at_101 (pc' := 102) rfl (z := (1 : Int32)) (by decide) ?_
              refine own_goto X43 hx hby at_102 (pc' := 106) (by decide) ?_
              refine own_istore X43 hx hby at_106 (pc' := 108) rfl (Ls' := #[.val (.int p1), .val (.int p2), .val (.int ((p1 &&& (2147483647 : Int32)) - ((p1 &&& (2147483647 : Int32)) / (5 : Int32)) * (5 : Int32))), .val (.ref r4), .val (.int (68 : Int32)), .val (.int (1 : Int32)), .val (.int (1 : Int32)), .unset, .unset, .unset]) rfl ?_
              refine own_iloadN X43 hx hby at_108 (pc' := 109) rfl rfl ?_
              refine own_iconst X43 hx hby at_109 (pc' := 110) rfl (z := (2 : Int32)) (by decide) ?_
              refine own_iand X43 hx hby at_110 (pc' := 111) rfl rfl ?_
              by_cases hc111 : (p2 &&& (2 : Int32)) = (0 : Int32)
              · skip
                refine own_ifNo X43 hx hby at_111 (pc' := 114) rfl (teq hc111).2 ?_
                refine own_iload X43 hx hby at_114 (pc' := 116) rfl rfl ?_
                refine own_ifNo X43 hx hby at_116 (pc' := 119) rfl (by decide) ?_
                refine own_iconst X43 hx hby at_119 (pc' := 120) rfl (z := (1 : Int32)) (by decide) ?_
                refine own_goto X43 hx hby at_120 (pc' := 124) (by decide) ?_
                refine own_istore X43 hx hby at_124 (pc' := 126) rfl (Ls' := #[.val (.int p1), .val (.int p2), .val (.int ((p1 &&& (2147483647 : Int32)) - ((p1 &&& (2147483647 : Int32)) / (5 : Int32)) * (5 : Int32))), .val (.ref r4), .val (.int (68 : Int32)), .val (.int (1 : Int32)), .val (.int (1 : Int32)), .val (.int (1 : Int32)), .unset, .unset]) rfl ?_
                refine own_iload X43 hx hby at_126 (pc' := 128) rfl rfl ?_
                refine own_ifNo X43 hx hby at_128 (pc' := 131) rfl (by decide) ?_
                refine own_iconst X43 hx hby at_131 (pc' := 132) rfl (z := (4 : Int32)) (by decide) ?_
                refine own_goto X43 hx hby at_132 (pc' := 136) (by decide) ?_
                refine own_iload X43 hx hby at_136 (pc' := 138) rfl rfl ?_
                refine own_ifNo X43 hx hby at_138 (pc' := 141) rfl (by decide) ?_
                refine own_iconst X43 hx hby at_141 (pc' := 142) rfl (z := (2 : Int32)) (by decide) ?_
                refine own_goto X43 hx hby at_142 (pc' := 146) (by decide) ?_
                refine own_iadd X43 hx hby at_146 (pc' := 147) rfl (z := (6 : Int32)) (by decide) ?_
                refine own_iload X43 hx hby at_147 (pc' := 149) rfl rfl ?_
                refine own_ifNo X43 hx hby at_149 (pc' := 152) rfl (by decide) ?_
                refine own_iconst X43 hx hby at_152 (pc' := 153) rfl (z := (1 : Int32)) (by decide) ?_
                refine own_goto X43 hx hby at_153 (pc' := 157) (by decide) ?_
                refine own_iadd X43 hx hby at_157 (pc' := 158) rfl (z := (7 : Int32)) (by decide) ?_
                refine own_istore X43 hx hby at_158 (pc' := 160) rfl (Ls' := #[.val (.int p1), .val (.int p2), .val (.int ((p1 &&& (2147483647 : Int32)) - ((p1 &&& (2147483647 : Int32)) / (5 : Int32)) * (5 : Int32))), .val (.ref r4), .val (.int (68 : Int32)), .val (.int (1 : Int32)), .val (.int (1 : Int32)), .val (.int (1 : Int32)), .val (.int (7 : Int32)), .unset]) rfl ?_
                refine own_iload X43 hx hby at_160 (pc' := 162) rfl rfl ?_
                refine own_iload X43 hx hby at_162 (pc' := 164) rfl rfl ?_
                refine own_ishr X43 hx hby at_164 (pc' := 165) rfl (z := (0 : Int32)) (by decide) ?_
                refine own_iconst X43 hx hby at_165 (pc' := 166) rfl (z := (1 : Int32)) (by decide) ?_
                refine own_iand X43 hx hby at_166 (pc' := 167) rfl (z := (0 : Int32)) (by decide) ?_
                refine own_ifYes X43 hx hby at_167 (pc' := 174) (by decide) (by decide) ?_
                refine own_iconst X43 hx hby at_174 (pc' := 175) rfl (z := (0 : Int32)) (by decide) ?_
                refine own_istore X43 hx hby at_175 (pc' := 177) rfl (Ls' := #[.val (.int p1), .val (.int p2), .val (.int ((p1 &&& (2147483647 : Int32)) - ((p1 &&& (2147483647 : Int32)) / (5 : Int32)) * (5 : Int32))), .val (.ref r4), .val (.int (68 : Int32)), .val (.int (1 : Int32)), .val (.int (1 : Int32)), .val (.int (1 : Int32)), .val (.int (7 : Int32)), .val (.int (0 : Int32))]) rfl ?_
                refine own_aloadN X43 hx hby at_177 (pc' := 178) rfl rfl rfl ?_
                refine own_iload X43 hx hby at_178 (pc' := 180) rfl rfl ?_
                refine own_iload X43 hx hby at_180 (pc' := 182) rfl rfl ?_
                refine own_iload X43 hx hby at_182 (pc' := 184) rfl rfl ?_
                refine own_callV X43 hx hZ (rm_t4 l Z a0 hw [] r4 (1 : Int32) (1 : Int32) (1 : Int32) h0 n0 F4 E4) hown (hw _ (List.mem_of_getElem? (i := 4) rfl)) (hw _ (List.mem_of_getElem? (i := 5) rfl)) (hw _ (List.mem_of_getElem? (i := 7) rfl)) (hw _ (List.mem_of_getElem? (i := 6) rfl)) (hw _ (List.mem_of_getElem? (i := 8) rfl)) (hw _ (List.mem_of_getElem? (i := 2) rfl)) (by decide) E4 (W := 0) (by decide) (by decide) (by rw [hml]; rfl) (argsL := [(.int (1 : Int32)), (.int (1 : Int32)), (.int (1 : Int32))]) (rest := []) rfl (lenOf own_pd1 rfl) rfl (Nat.le_of_eq rfl) (hb hby at_184) e43 (by decide) (by decide) ?_
                intro v50 T50 L50 X50 hQ50
                obtain ⟨hv50, N50q, e50⟩ := hQ50
                rw [show own_ti (4 : Int32) (1 : Int32) (1 : Int32) (1 : Int32) = (0 : Int32) from by decide] at hv50
                subst hv50
                have N50 := Fr.app N0 N50q
                show own_Go p.tables e below (T50.setTop (mkF m 187 #[.val (.int p1), .val (.int p2), .val (.int ((p1 &&& (2147483647 : Int32)) - ((p1 &&& (2147483647 : Int32)) / (5 : Int32)) * (5 : Int32))), .val (.ref r4), .val (.int (68 : Int32)), .val (.int (1 : Int32)), .val (.int (1 : Int32)), .val (.int (1 : Int32)), .val (.int (7 : Int32)), .val (.int (0 : Int32))] [(.int (0 : Int32))])) _
                refine own_iload X50 hx hby at_187 (pc' := 189) rfl rfl ?_
                refine own_icmpNo X50 hx hby at_189 (pc' := 192) rfl (by decide) ?_
                refine own_iconst X50 hx hby at_192 (pc' := 193) rfl (z := (1 : Int32)) (by decide) ?_
                refine own_goto X50 hx hby at_193 (pc' := 197) (by decide) ?_
                exact own_retZ (t := .boolean) X50 hx hret (by simp) (hb hby at_197) hlk (by decide) (by decide) ⟨congrArg (fun z => some (Value.int z)) (own_nar1), N50⟩
              · skip
                refine own_ifYes X43 hx hby at_111 (pc' := 119) (by decide) (feq hc111).2 ?_
                refine own_iconst X43 hx hby at_119 (pc' := 120) rfl (z := (1 : Int32)) (by decide) ?_
                refine own_goto X43 hx hby at_120 (pc' := 124) (by decide) ?_
                refine own_istore X43 hx hby at_124 (pc' := 126) rfl (Ls' := #[.val (.int p1), .val (.int p2), .val (.int ((p1 &&& (2147483647 : Int32)) - ((p1 &&& (2147483647 : Int32)) / (5 : Int32)) * (5 : Int32))), .val (.ref r4), .val (.int (68 : Int32)), .val (.int (1 : Int32)), .val (.int (1 : Int32)), .val (.int (1 : Int32)), .unset, .unset]) rfl ?_
                refine own_iload X43 hx hby at_126 (pc' := 128) rfl rfl ?_
                refine own_ifNo X43 hx hby at_128 (pc' := 131) rfl (by decide) ?_
                refine own_iconst X43 hx hby at_131 (pc' := 132) rfl (z := (4 : Int32)) (by decide) ?_
                refine own_goto X43 hx hby at_132 (pc' := 136) (by decide) ?_
                refine own_iload X43 hx hby at_136 (pc' := 138) rfl rfl ?_
                refine own_ifNo X43 hx hby at_138 (pc' := 141) rfl (by decide) ?_
                refine own_iconst X43 hx hby at_141 (pc' := 142) rfl (z := (2 : Int32)) (by decide) ?_
                refine own_goto X43 hx hby at_142 (pc' := 146) (by decide) ?_
                refine own_iadd X43 hx hby at_146 (pc' := 147) rfl (z := (6 : Int32)) (by decide) ?_
                refine own_iload X43 hx hby at_147 (pc' := 149) rfl rfl ?_
                refine own_ifNo X43 hx hby at_149 (pc' := 152) rfl (by decide) ?_
                refine own_iconst X43 hx hby at_152 (pc' := 153) rfl (z := (1 : Int32)) (by decide) ?_
                refine own_goto X43 hx hby at_153 (pc' := 157) (by decide) ?_
                refine own_iadd X43 hx hby at_157 (pc' := 158) rfl (z := (7 : Int32)) (by decide) ?_
                refine own_istore X43 hx hby at_158 (pc' := 160) rfl (Ls' := #[.val (.int p1), .val (.int p2), .val (.int ((p1 &&& (2147483647 : Int32)) - ((p1 &&& (2147483647 : Int32)) / (5 : Int32)) * (5 : Int32))), .val (.ref r4), .val (.int (68 : Int32)), .val (.int (1 : Int32)), .val (.int (1 : Int32)), .val (.int (1 : Int32)), .val (.int (7 : Int32)), .unset]) rfl ?_
                refine own_iload X43 hx hby at_160 (pc' := 162) rfl rfl ?_
                refine own_iload X43 hx hby at_162 (pc' := 164) rfl rfl ?_
                refine own_ishr X43 hx hby at_164 (pc' := 165) rfl (z := (0 : Int32)) (by decide) ?_
                refine own_iconst X43 hx hby at_165 (pc' := 166) rfl (z := (1 : Int32)) (by decide) ?_
                refine own_iand X43 hx hby at_166 (pc' := 167) rfl (z := (0 : Int32)) (by decide) ?_
                refine own_ifYes X43 hx hby at_167 (pc' := 174) (by decide) (by decide) ?_
                refine own_iconst X43 hx hby at_174 (pc' := 175) rfl (z := (0 : Int32)) (by decide) ?_
                refine own_istore X43 hx hby at_175 (pc' := 177) rfl (Ls' := #[.val (.int p1), .val (.int p2), .val (.int ((p1 &&& (2147483647 : Int32)) - ((p1 &&& (2147483647 : Int32)) / (5 : Int32)) * (5 : Int32))), .val (.ref r4), .val (.int (68 : Int32)), .val (.int (1 : Int32)), .val (.int (1 : Int32)), .val (.int (1 : Int32)), .val (.int (7 : Int32)), .val (.int (0 : Int32))]) rfl ?_
                refine own_aloadN X43 hx hby at_177 (pc' := 178) rfl rfl rfl ?_
                refine own_iload X43 hx hby at_178 (pc' := 180) rfl rfl ?_
                refine own_iload X43 hx hby at_180 (pc' := 182) rfl rfl ?_
                refine own_iload X43 hx hby at_182 (pc' := 184) rfl rfl ?_
                refine own_callV X43 hx hZ (rm_t4 l Z a0 hw [] r4 (1 : Int32) (1 : Int32) (1 : Int32) h0 n0 F4 E4) hown (hw _ (List.mem_of_getElem? (i := 4) rfl)) (hw _ (List.mem_of_getElem? (i := 5) rfl)) (hw _ (List.mem_of_getElem? (i := 7) rfl)) (hw _ (List.mem_of_getElem? (i := 6) rfl)) (hw _ (List.mem_of_getElem? (i := 8) rfl)) (hw _ (List.mem_of_getElem? (i := 2) rfl)) (by decide) E4 (W := 0) (by decide) (by decide) (by rw [hml]; rfl) (argsL := [(.int (1 : Int32)), (.int (1 : Int32)), (.int (1 : Int32))]) (rest := []) rfl (lenOf own_pd1 rfl) rfl (Nat.le_of_eq rfl) (hb hby at_184) e43 (by decide) (by decide) ?_
                intro v51 T51 L51 X51 hQ51
                obtain ⟨hv51, N51q, e51⟩ := hQ51
                rw [show own_ti (4 : Int32) (1 : Int32) (1 : Int32) (1 : Int32) = (0 : Int32) from by decide] at hv51
                subst hv51
                have N51 := Fr.app N0 N51q
                show own_Go p.tables e below (T51.setTop (mkF m 187 #[.val (.int p1), .val (.int p2), .val (.int ((p1 &&& (2147483647 : Int32)) - ((p1 &&& (2147483647 : Int32)) / (5 : Int32)) * (5 : Int32))), .val (.ref r4), .val (.int (68 : Int32)), .val (.int (1 : Int32)), .val (.int (1 : Int32)), .val (.int (1 : Int32)), .val (.int (7 : Int32)), .val (.int (0 : Int32))] [(.int (0 : Int32))])) _
                refine own_iload X51 hx hby at_187 (pc' := 189) rfl rfl ?_
                refine own_icmpNo X51 hx hby at_189 (pc' := 192) rfl (by decide) ?_
                refine own_iconst X51 hx hby at_192 (pc' := 193) rfl (z := (1 : Int32)) (by decide) ?_
                refine own_goto X51 hx hby at_193 (pc' := 197) (by decide) ?_
                exact own_retZ (t := .boolean) X51 hx hret (by simp) (hb hby at_197) hlk (by decide) (by decide) ⟨congrArg (fun z => some (Value.int z)) (own_nar1), N51⟩
set_option maxRecDepth 65536 in
set_option maxHeartbeats 40000000 in
theorem comes_1 {Post : Tables → Env → Array Value → State → Outcome → State → Prop} (hpost : ∀ tb e args s v u, (limb_1_1.after args s (.returned v) u = true ∧ limb_1_2.after args s (.returned v) u = true ∧ True) → FrameEnd s (.returned v) u (Jvm.fieldLocs frame_1_writes args s ++ Jvm.arrayLocs frame_1_arrays args s ++ Jvm.staticLocs frame_1_statics s) 0 0 → Post tb e args s (.returned v) u) :
    ArmFor flags0 classFile x code maxLocals ret World_1 tables_1 room_1 Calls_1 rest_1 Pre_1 Post := by
  intro l hfl _ _ p e ha hc hk s m args below hf hA hF happ hP
  obtain ⟨hcalls, hrest, hpre⟩ := hP
  obtain ⟨-, -, -, hnamed, -, -, -, hat⟩ := (Spec.applies_iff hf).mp happ
  obtain ⟨hg, hn⟩ := and_e (Cond.before_iff.mp (show (Jvm.Cond.and given_1 narrow_1).before args s = true from hpre))
  obtain ⟨g52, g53⟩ := and_e hg
  obtain ⟨g54, g55⟩ := and_e g53
  obtain ⟨w0, w1, rfl⟩ : ∃ w0 w1 : Value, args = #[w0, w1] := by
    have hs : args.size = 2 := by simpa [Cond.value, given_1] using g52
    obtain ⟨L⟩ := args
    match L, hs with
    | [w0, w1], _ => exact ⟨w0, w1, rfl⟩
  have hw := fun d (hd : d ∈ tables_1) => atoms_spec (ws := Jvm.Cond.code x code maxLocals ret :: tables_1) hat d (List.mem_cons_of_mem _ hd)
  have hfit : Fit s := fun {y c} hc i hi => by
    obtain ⟨ha, rfl⟩ := Array.getElem?_eq_some_iff.mp hc
    have q := List.all_eq_true.mp ((Array.all_eq_true_iff_forall_mem.mp hF) _ (Array.getElem_mem ha)) i (List.mem_range.mpr hi)
    simpa [Array.getElem?_eq_getElem hi] using q
  obtain ⟨i0, ei0⟩ := is_v g54
  obtain rfl : w0 = (.int i0) := Option.some.inj ei0
  obtain ⟨i1, ei1⟩ := is_v g55
  obtain rfl : w1 = (.int i1) := Option.some.inj ei1
  obtain ⟨n56, n57⟩ := and_e hn
  obtain ⟨n58, n59⟩ := and_e n57
  obtain ⟨n60, n61⟩ := and_e n59
  obtain ⟨n62, n63⟩ := and_e n61
  obtain ⟨n64, n65⟩ := and_e n63
  obtain ⟨n66, n67⟩ := and_e n65
  obtain ⟨n68, n69⟩ := and_e n67
  obtain ⟨n70, n71⟩ := and_e n69
  obtain ⟨n72, n73⟩ := and_e n71
  obtain ⟨a_ALL, ev_ALL⟩ := exa_v n56
  have S_ALL : Sta s s.heap "com/example/services_on_tap/servicesontap/UserScope" "ALL" "Lcom/example/services_on_tap/servicesontap/UserScope;" (.ref a_ALL) := Sta.start ev_ALL (Or.inr ⟨(hw _ (List.mem_of_getElem? (i := 2) rfl)), (hw _ (List.mem_of_getElem? (i := 3) rfl))⟩)
  have E_ALL : Exa s s.heap a_ALL "com/example/services_on_tap/servicesontap/UserScope" := Exa.start ev_ALL n56
  have F_ALL_ordinal : Fld s s.heap a_ALL "java/lang/Enum" "ordinal" "I" (.int (0 : Int32)) := Fld.start ((fld_at ev_ALL).symm.trans (own_eqI n58))
  obtain ⟨a_BACKGROUND_VISIBLE, ev_BACKGROUND_VISIBLE⟩ := exa_v n60
  have S_BACKGROUND_VISIBLE : Sta s s.heap "com/example/services_on_tap/servicesontap/UserScope" "BACKGROUND_VISIBLE" "Lcom/example/services_on_tap/servicesontap/UserScope;" (.ref a_BACKGROUND_VISIBLE) := Sta.start ev_BACKGROUND_VISIBLE (Or.inr ⟨(hw _ (List.mem_of_getElem? (i := 2) rfl)), (hw _ (List.mem_of_getElem? (i := 19) rfl))⟩)
  have E_BACKGROUND_VISIBLE : Exa s s.heap a_BACKGROUND_VISIBLE "com/example/services_on_tap/servicesontap/UserScope" := Exa.start ev_BACKGROUND_VISIBLE n60
  have F_BACKGROUND_VISIBLE_ordinal : Fld s s.heap a_BACKGROUND_VISIBLE "java/lang/Enum" "ordinal" "I" (.int (4 : Int32)) := Fld.start ((fld_at ev_BACKGROUND_VISIBLE).symm.trans (own_eqI n62))
  obtain ⟨a_VISIBLE, ev_VISIBLE⟩ := exa_v n64
  have S_VISIBLE : Sta s s.heap "com/example/services_on_tap/servicesontap/UserScope" "VISIBLE" "Lcom/example/services_on_tap/servicesontap/UserScope;" (.ref a_VISIBLE) := Sta.start ev_VISIBLE (Or.inr ⟨(hw _ (List.mem_of_getElem? (i := 2) rfl)), (hw _ (List.mem_of_getElem? (i := 21) rfl))⟩)
  have E_VISIBLE : Exa s s.heap a_VISIBLE "com/example/services_on_tap/servicesontap/UserScope" := Exa.start ev_VISIBLE n64
  have F_VISIBLE_ordinal : Fld s s.heap a_VISIBLE "java/lang/Enum" "ordinal" "I" (.int (3 : Int32)) := Fld.start ((fld_at ev_VISIBLE).symm.trans (own_eqI n66))
  obtain ⟨a_SYSTEM, ev_SYSTEM⟩ := exa_v n68
  have S_SYSTEM : Sta s s.heap "com/example/services_on_tap/servicesontap/UserScope" "SYSTEM" "Lcom/example/services_on_tap/servicesontap/UserScope;" (.ref a_SYSTEM) := Sta.start ev_SYSTEM (Or.inr ⟨(hw _ (List.mem_of_getElem? (i := 2) rfl)), (hw _ (List.mem_of_getElem? (i := 23) rfl))⟩)
  have E_SYSTEM : Exa s s.heap a_SYSTEM "com/example/services_on_tap/servicesontap/UserScope" := Exa.start ev_SYSTEM n68
  have F_SYSTEM_ordinal : Fld s s.heap a_SYSTEM "java/lang/Enum" "ordinal" "I" (.int (1 : Int32)) := Fld.start ((fld_at ev_SYSTEM).symm.trans (own_eqI n70))
  obtain ⟨a_FOREGROUND, ev_FOREGROUND⟩ := exa_v n72
  have S_FOREGROUND : Sta s s.heap "com/example/services_on_tap/servicesontap/UserScope" "FOREGROUND" "Lcom/example/services_on_tap/servicesontap/UserScope;" (.ref a_FOREGROUND) := Sta.start ev_FOREGROUND (Or.inr ⟨(hw _ (List.mem_of_getElem? (i := 2) rfl)), (hw _ (List.mem_of_getElem? (i := 25) rfl))⟩)
  have E_FOREGROUND : Exa s s.heap a_FOREGROUND "com/example/services_on_tap/servicesontap/UserScope" := Exa.start ev_FOREGROUND n72
  have F_FOREGROUND_ordinal : Fld s s.heap a_FOREGROUND "java/lang/Enum" "ordinal" "I" (.int (2 : Int32)) := Fld.start ((fld_at ev_FOREGROUND).symm.trans (own_eqI n73))
  obtain ⟨n, o, h1, h2, h3, _, L, rfl, ⟨rfl, N⟩, hq⟩ := rm0 l s _ hw tables_1 i0 i1 a_ALL a_SYSTEM a_FOREGROUND a_VISIBLE a_BACKGROUND_VISIBLE s.heap s.heap.size S_ALL E_ALL F_ALL_ordinal S_SYSTEM E_SYSTEM F_SYSTEM_ordinal S_FOREGROUND E_FOREGROUND F_FOREGROUND_ordinal S_VISIBLE E_VISIBLE F_VISIBLE_ordinal S_BACKGROUND_VISIBLE E_BACKGROUND_VISIBLE F_BACKGROUND_VISIBLE_ordinal p e ha hc hk s m _ below hf ((Spec.applies_iff_loose hf).mp happ).1 ⟨rfl, State.Warmed39.refl s, rfl⟩ trivial
  refine ⟨n, _, h1, h2, h3, hpost _ _ _ _ _ _ ⟨Cond.after_iff.mpr rfl, Cond.after_iff.mpr (eq_i res_at (Term.int_eval (1)) rfl), trivial⟩ ⟨hq.1, hq.2.1, (hq.2.2.sift fun y hy => Or.inr (N y hy)).mono (by decide) (by decide)⟩⟩
theorem main_1_1 : Claimed_1_1 := comes_1 fun _ _ _ _ _ _ h hF => ⟨h.1, hF⟩
theorem main_1_2 : Claimed_1_2 := comes_1 fun _ _ _ _ _ _ h hF => ⟨h.2.1, hF⟩
end Jvm.Pilot.@@N@@
namespace Jvm.Pilot.@@N@@
open Jvm Jvm.ClassFile Sem Op Lib Jvm.Free Jvm.Stand Jvm.Pilot.@@N@@.Jvm.D
/-! MADE BY PROGRAM (witnessworld.py) out of the Statement's table words and the real class files: 12 classes; the members and pool entries that the words name. The judged class is class 1, her method 1. -/
namespace start1
open Jvm.ClassFile
def u (s : String) : CpInfo := .utf8 (stringToUtf16 s)
/-- a pool by its gaps: so many unusable entries, then the entry; so many at the end -/
def gap : Nat → List CpInfo → List CpInfo
  | 0, r => r
  | n + 1, r => .unusable :: gap n r
def poolList (es : List (Nat × CpInfo)) (last : Nat) : List CpInfo := es.foldr (fun e r => gap e.1 (e.2 :: r)) (gap last [])
def pool (es : List (Nat × CpInfo)) (last : Nat) : Array CpInfo := ⟨poolList es last⟩
def fileOf (pool : Array CpInfo) (this : Nat) (attrs : Array Attribute := #[]) (ms : Array MethodInfo := #[]) (fl : Nat := 33) (sup : Nat := 0) (ifs : Array Nat := #[]) (fds : Array FieldInfo := #[]) : ClassFile where
  minorVersion := 0
  majorVersion := 65
  constantPool := pool
  accessFlags := fl
  thisClass := this
  superClass := sup
  interfaces := ifs
  fields := fds
  methods := ms
  attributes := attrs
def plain (name : String) (sup : Option ClassId) : Class where
  name := name
  kind := .ordinary
  loader := none
  accessFlags := 33
  super := sup
  interfaces := #[]
  cf := none
  fields := #[]
  methods := #[]
  instanceTypes := #[]
  staticTypes := #[]
  resolved := #[]
  callSites := []
  init := .initialized
  statics := none
  mirror := none

def pool0 : Array CpInfo := pool [(5, u "<init>"), (0, u "()V"), (1, .class_ 10), (1, u "java/lang/Object")] 113

def k0m0 : Method := { name := "<init>", desc := "()V", sig := { parameters := [], returnType := none }, accessFlags := 1, code := none }
/-- java/lang/Object -/
def k0 : Class := { plain "java/lang/Object" none with
  accessFlags := 33
  interfaces := #[]
  cf := some (fileOf pool0 8 #[] #[{ accessFlags := 1, nameIndex := 5, descriptorIndex := 6, attributes := #[] }] 33 0 #[] #[])
  fields := #[]
  methods := #[k0m0]
  instanceTypes := #[]
  staticTypes := #[]
  resolved := Array.replicate 124 none
  statics := none }

def pool1 : Array CpInfo := pool [(2, .class_ 4), (1, u "java/lang/Object"), (0, u "<init>"), (0, u "()V"), (0, .integer 2147483647), (0, .fieldref 9 10), (0, .class_ 11), (0, .nameAndType 12 13), (0, u "com/example/services_on_tap/servicesontap/UserScope"), (0, u "ALL"), (0, u "Lcom/example/services_on_tap/servicesontap/UserScope;"), (0, .fieldref 9 15), (0, .nameAndType 16 13), (0, u "SYSTEM"), (0, .fieldref 9 18), (0, .nameAndType 19 13), (0, u "FOREGROUND"), (0, .fieldref 9 21), (0, .nameAndType 22 13), (0, u "VISIBLE"), (0, .fieldref 9 24), (0, .nameAndType 25 13), (0, u "BACKGROUND_VISIBLE"), (0, .methodref 9 27), (0, .nameAndType 28 29), (0, u "takesIn"), (0, u "(ZZZ)Z"), (0, .class_ 31), (0, u "com/example/services_on_tap/servicesontap/UserScopeTakesInPinLaw"), (2, u "law"), (0, u "(II)Z")] 3

def k1m0 : Method := { name := "<init>", desc := "()V", sig := { parameters := [], returnType := none }, accessFlags := 2, code := none }
def k1c1 : Code := { maxStack := 4, maxLocals := 10, code := code, exceptionTable := #[], attributes := #[] }
def k1m1 : Method := { name := "law", desc := "(II)Z", sig := { parameters := [.int, .int], returnType := some .boolean }, accessFlags := 9, code := some k1c1 }
/-- com/example/services_on_tap/servicesontap/UserScopeTakesInPinLaw -/
def k1 : Class := { plain "com/example/services_on_tap/servicesontap/UserScopeTakesInPinLaw" (some 0) with
  accessFlags := 49
  interfaces := #[]
  cf := some (fileOf pool1 30 #[] #[{ accessFlags := 2, nameIndex := 5, descriptorIndex := 6, attributes := #[] }, { accessFlags := 9, nameIndex := 34, descriptorIndex := 35, attributes := #[] }] 49 2 #[] #[])
  fields := #[]
  methods := #[k1m0, k1m1]
  instanceTypes := #[]
  staticTypes := #[]
  resolved := Array.replicate 39 none
  statics := none }

def pool2 : Array CpInfo := pool [(1, .class_ 2), (0, u "java/lang/constant/Constable"), (0, .class_ 4), (0, u "java/lang/Object")] 6

/-- java/lang/constant/Constable -/
def k2 : Class := { plain "java/lang/constant/Constable" (some 0) with
  accessFlags := 1537
  interfaces := #[]
  cf := some (fileOf pool2 1 #[] #[] 1537 3 #[] #[])
  fields := #[]
  methods := #[]
  instanceTypes := #[]
  staticTypes := #[]
  resolved := Array.replicate 11 none
  statics := none }

def pool3 : Array CpInfo := pool [(1, .class_ 2), (0, u "java/lang/Comparable"), (0, .class_ 4), (0, u "java/lang/Object")] 7

/-- java/lang/Comparable -/
def k3 : Class := { plain "java/lang/Comparable" (some 0) with
  accessFlags := 1537
  interfaces := #[]
  cf := some (fileOf pool3 1 #[] #[] 1537 3 #[] #[])
  fields := #[]
  methods := #[]
  instanceTypes := #[]
  staticTypes := #[]
  resolved := Array.replicate 12 none
  statics := none }

def pool4 : Array CpInfo := pool [(1, .class_ 2), (0, u "java/io/Serializable"), (0, .class_ 4), (0, u "java/lang/Object")] 2

/-- java/io/Serializable -/
def k4 : Class := { plain "java/io/Serializable" (some 0) with
  accessFlags := 1537
  interfaces := #[]
  cf := some (fileOf pool4 1 #[] #[] 1537 3 #[] #[])
  fields := #[]
  methods := #[]
  instanceTypes := #[]
  staticTypes := #[]
  resolved := Array.replicate 7 none
  statics := none }

def pool5 : Array CpInfo := pool [(2, .class_ 4), (1, u "java/lang/Enum"), (0, u "name"), (0, u "Ljava/lang/String;"), (0, .fieldref 2 8), (0, .nameAndType 9 10), (0, u "ordinal"), (0, u "I"), (1, .class_ 14), (1, u "java/lang/Object"), (4, u "hash"), (86, .class_ 108), (1, u "java/lang/Enum$EnumDesc"), (2, .class_ 112), (0, u "java/lang/constant/Constable"), (0, .class_ 114), (0, u "java/lang/Comparable"), (0, .class_ 116), (0, u "java/io/Serializable"), (9, u "()I")] 77

def k5c0 : Code := { maxStack := 1, maxLocals := 1, code := jdk_37_method_2_code, exceptionTable := #[], attributes := #[] }
def k5m0 : Method := { name := "ordinal", desc := "()I", sig := { parameters := [], returnType := some .int }, accessFlags := 17, code := some k5c0 }
/-- java/lang/Enum -/
def k5 : Class := { plain "java/lang/Enum" (some 0) with
  accessFlags := 1057
  interfaces := #[2, 3, 4]
  cf := some (fileOf pool5 2 #[.nestMembers #[106]] #[{ accessFlags := 17, nameIndex := 9, descriptorIndex := 126, attributes := #[] }] 1057 12 #[111, 113, 115] #[{ accessFlags := 18, nameIndex := 5, descriptorIndex := 6, attributes := #[] }, { accessFlags := 18, nameIndex := 9, descriptorIndex := 10, attributes := #[] }, { accessFlags := 2, nameIndex := 19, descriptorIndex := 10, attributes := #[] }])
  fields := #[{ name := "name", type := (.object "java/lang/String"), accessFlags := 18, slot := 0, constantValue := 0 }, { name := "ordinal", type := .int, accessFlags := 18, slot := 1, constantValue := 0 }, { name := "hash", type := .int, accessFlags := 2, slot := 2, constantValue := 0 }]
  methods := #[k5m0]
  instanceTypes := #[(.object "java/lang/String"), .int, .int]
  staticTypes := #[]
  resolved := Array.replicate 204 none
  statics := none }

def pool6 : Array CpInfo := pool [(1, .class_ 2), (0, u "com/example/services_on_tap/servicesontap/UserScope"), (2, u "ALL"), (0, u "Lcom/example/services_on_tap/servicesontap/UserScope;"), (2, u "SYSTEM"), (2, u "FOREGROUND"), (2, u "VISIBLE"), (2, u "BACKGROUND_VISIBLE"), (2, u "$VALUES"), (0, u "[Lcom/example/services_on_tap/servicesontap/UserScope;"), (6, .class_ 31), (1, u "java/lang/Enum"), (8, u "spelling"), (0, u "Ljava/lang/String;"), (0, .methodref 1 43), (0, .nameAndType 44 45), (0, u "ordinal"), (0, u "()I"), (34, u "takesIn"), (0, u "(ZZZ)Z")] 8

def k6c0 : Code := { maxStack := 4, maxLocals := 4, code := prog_38_method_4_code, exceptionTable := #[], attributes := #[] }
def k6m0 : Method := { name := "takesIn", desc := "(ZZZ)Z", sig := { parameters := [.boolean, .boolean, .boolean], returnType := some .boolean }, accessFlags := 0, code := some k6c0 }
/-- com/example/services_on_tap/servicesontap/UserScope -/
def k6 : Class := { plain "com/example/services_on_tap/servicesontap/UserScope" (some 5) with
  accessFlags := 16433
  interfaces := #[]
  cf := some (fileOf pool6 1 #[] #[{ accessFlags := 0, nameIndex := 80, descriptorIndex := 81, attributes := #[] }] 16433 29 #[] #[{ accessFlags := 16409, nameIndex := 5, descriptorIndex := 6, attributes := #[] }, { accessFlags := 16409, nameIndex := 9, descriptorIndex := 6, attributes := #[] }, { accessFlags := 16409, nameIndex := 12, descriptorIndex := 6, attributes := #[] }, { accessFlags := 16409, nameIndex := 15, descriptorIndex := 6, attributes := #[] }, { accessFlags := 16409, nameIndex := 18, descriptorIndex := 6, attributes := #[] }, { accessFlags := 18, nameIndex := 40, descriptorIndex := 41, attributes := #[] }, { accessFlags := 4122, nameIndex := 21, descriptorIndex := 22, attributes := #[] }])
  fields := #[{ name := "ALL", type := (.object "com/example/services_on_tap/servicesontap/UserScope"), accessFlags := 16409, slot := 0, constantValue := 0 }, { name := "SYSTEM", type := (.object "com/example/services_on_tap/servicesontap/UserScope"), accessFlags := 16409, slot := 1, constantValue := 0 }, { name := "FOREGROUND", type := (.object "com/example/services_on_tap/servicesontap/UserScope"), accessFlags := 16409, slot := 2, constantValue := 0 }, { name := "VISIBLE", type := (.object "com/example/services_on_tap/servicesontap/UserScope"), accessFlags := 16409, slot := 3, constantValue := 0 }, { name := "BACKGROUND_VISIBLE", type := (.object "com/example/services_on_tap/servicesontap/UserScope"), accessFlags := 16409, slot := 4, constantValue := 0 }, { name := "spelling", type := (.object "java/lang/String"), accessFlags := 18, slot := 3, constantValue := 0 }, { name := "$VALUES", type := (.array (.object "com/example/services_on_tap/servicesontap/UserScope")), accessFlags := 4122, slot := 5, constantValue := 0 }]
  methods := #[k6m0]
  instanceTypes := #[(.object "java/lang/String"), .int, .int, (.object "java/lang/String")]
  staticTypes := #[(.object "com/example/services_on_tap/servicesontap/UserScope"), (.object "com/example/services_on_tap/servicesontap/UserScope"), (.object "com/example/services_on_tap/servicesontap/UserScope"), (.object "com/example/services_on_tap/servicesontap/UserScope"), (.object "com/example/services_on_tap/servicesontap/UserScope"), (.array (.object "com/example/services_on_tap/servicesontap/UserScope"))]
  resolved := Array.replicate 90 none
  statics := some 0 }

def pool7 : Array CpInfo := pool [(1, u "java/lang/Cloneable"), (0, .class_ 1), (0, u "java/lang/Object"), (0, .class_ 3)] 3

/-- java/lang/Cloneable -/
def k7 : Class := { plain "java/lang/Cloneable" (some 0) with
  accessFlags := 1537
  interfaces := #[]
  cf := some (fileOf pool7 2 #[] #[] 1537 4 #[] #[])
  fields := #[]
  methods := #[]
  instanceTypes := #[]
  staticTypes := #[]
  resolved := Array.replicate 8 none
  statics := none }

/-- the primitive byte -/
def k8 : Class := { plain "byte" none with kind := .primitive 'B', accessFlags := 0x411 }
/-- [B -/
def k9 : Class := { plain "[B" (some 0) with kind := .array 8 .byte, interfaces := #[7, 4], accessFlags := 1041 }

/-- the primitive int -/
def k10 : Class := { plain "int" none with kind := .primitive 'I', accessFlags := 0x411 }
/-- [I -/
def k11 : Class := { plain "[I" (some 0) with kind := .array 10 .int, interfaces := #[7, 4], accessFlags := 1041 }

def heap : Heap := #[{ cls := 6, slots := #[.ref 1, .ref 4, .ref 5, .ref 3, .ref 2, .null], vm := .statics 6 },
  { cls := 6, slots := #[.null, .int 0, .int 0, .null], vm := .none },
  { cls := 6, slots := #[.null, .int 4, .int 0, .null], vm := .none },
  { cls := 6, slots := #[.null, .int 3, .int 0, .null], vm := .none },
  { cls := 6, slots := #[.null, .int 1, .int 0, .null], vm := .none },
  { cls := 6, slots := #[.null, .int 2, .int 0, .null], vm := .none }]
def classes : Array Class := #[k0, k1, k2, k3, k4, k5, k6, k7, k8, k9, k10, k11]
def interned : List (Array UInt16 × Addr) := []
def slotsUsed : Nat := 26
def theMethod : MethodId := ⟨1, 1⟩
def args0 : Array Value := #[.int 3, .int 1]
def aboutOver (below : List Frame) : State where
  vm := { classes := classes, interned := interned.toArray }
  heap := heap
  slotsUsed := slotsUsed
  threads := #[{ frames := .invoking theMethod args0 :: below }]
def below0 : List Frame := [.native { method := ⟨0, 0⟩, args := #[] }]
def about1 : State := aboutOver below0
def p0 : Program := .bare "" "" ""
def e0 : Env := launch0.env 0 0 0
theorem w_frames : about1.frames = Frame.invoking theMethod args0 :: below0 := rfl
set_option maxRecDepth 65536 in
theorem w_args : argsFit about1.vm theMethod args0 = true := by decide +kernel
set_option maxRecDepth 65536 in
theorem w_heap : heapFits about1 = true := by decide +kernel
set_option maxRecDepth 65536 in
theorem w_runnable : about1.curStatus? = some .runnable := by decide +kernel
set_option maxRecDepth 65536 in
theorem w_alone : about1.alone = true := by decide +kernel
set_option maxRecDepth 65536 in
theorem w_named : about1.methodNamed? x = some theMethod := by decide +kernel
set_option maxRecDepth 65536 in
theorem w_hears : about1.hears theMethod below0 = true := by decide +kernel
set_option maxRecDepth 65536 in
theorem w_ripe : about1.ripe theMethod args0 below0 = true := by decide +kernel
theorem w_running : about1.status = .running := rfl
set_option maxRecDepth 65536 in
theorem w_room : about1.hasRoom e0.platform room_1 = true :=
  launch0.hasRoom_least _ room_1 (by decide +kernel) (by decide +kernel) (by decide +kernel) (by decide +kernel) (by decide +kernel) (by decide +kernel)
theorem allAtoms_all (ts : List Jvm.Cond) (a : Array Jvm.Value) (st : Jvm.State) : (allAtoms ts).before a st = ts.all (fun c => c.before a st) := by
  induction ts with
  | nil => rfl
  | cons c t ih =>
    show (Jvm.Cond.and c (allAtoms t)).before a st = _
    rw [Jvm.Cond.before_and, ih, List.all_cons]
def words1 : List Jvm.Cond := Jvm.Cond.code x code maxLocals ret :: tables_1
/-- a 'code' word, met by the world's own term for the bytes: nothing is compared byte by byte -/
theorem code_word {y : MethodName} {bytes : ByteArray} {mx : Nat} {rt : Option FieldType} {a : Array Value} {s : State} {m : MethodId} {meth : Method} {c : Code} (h1 : s.methodNamed? y = some m) (h2 : s.vm.method? m = some meth) (h3 : meth.code = some c) (h4 : c.code = bytes)
    (h5 : (c.maxLocals == mx && c.exceptionTable.isEmpty && decide (c.maxStack ≤ mostOperands) && decide (meth.sig.returnType = rt) && !meth.locks && decide (parseMethodDescriptor y.desc = some meth.sig)) = true) : (Jvm.Cond.code y bytes mx rt).before a s = true := by
  simp only [Bool.and_eq_true, beq_iff_eq, Bool.not_eq_true', decide_eq_true_eq] at h5
  obtain ⟨⟨⟨⟨⟨g1, g2⟩, g3⟩, g4⟩, g5⟩, g6⟩ := h5
  simp [Cond.before, Cond.holds, Cond.value, h1, h2, h3, h4, g1, g2, g3, g4, g5, g6]
def isCode : Jvm.Cond → Bool
  | .code _ _ _ _ => true
  | _ => false
theorem all_split {L : List Jvm.Cond} {P : Jvm.Cond → Bool} (h1 : L.all (fun c => isCode c || P c) = true) (h2 : ∀ c ∈ L.filter isCode, P c = true) : L.all P = true := by
  refine List.all_eq_true.mpr fun c hc => ?_
  have h := List.all_eq_true.mp h1 c hc
  rcases Bool.eq_false_or_eq_true (isCode c) with hi | hi
  · exact h2 c (List.mem_filter.mpr ⟨hc, hi⟩)
  · simpa [hi] using h
set_option maxRecDepth 65536 in
theorem w_c0 : (Jvm.Cond.code x code maxLocals ret).before args0 about1 = true := code_word (m := ⟨1, 1⟩) (meth := k1m1) (c := k1c1) (by decide +kernel) rfl rfl rfl (by decide +kernel)
set_option maxRecDepth 65536 in
theorem w_c1 : (Jvm.Cond.code ({ cls := "com/example/services_on_tap/servicesontap/UserScope", name := "takesIn", desc := "(ZZZ)Z" } : Jvm.MethodName) prog_38_method_4_code (4 : Nat) (Option.some Jvm.ClassFile.FieldType.boolean)).before args0 about1 = true := code_word (m := ⟨6, 0⟩) (meth := k6m0) (c := k6c0) (by decide +kernel) rfl rfl rfl (by decide +kernel)
set_option maxRecDepth 65536 in
theorem w_c2 : (Jvm.Cond.code ({ cls := "java/lang/Enum", name := "ordinal", desc := "()I" } : Jvm.MethodName) jdk_37_method_2_code (1 : Nat) (Option.some Jvm.ClassFile.FieldType.int)).before args0 about1 = true := code_word (m := ⟨5, 0⟩) (meth := k5m0) (c := k5c0) (by decide +kernel) rfl rfl rfl (by decide +kernel)
def codes1 : List Jvm.Cond := [Jvm.Cond.code x code maxLocals ret, Jvm.Cond.code ({ cls := "com/example/services_on_tap/servicesontap/UserScope", name := "takesIn", desc := "(ZZZ)Z" } : Jvm.MethodName) prog_38_method_4_code (4 : Nat) (Option.some Jvm.ClassFile.FieldType.boolean), Jvm.Cond.code ({ cls := "java/lang/Enum", name := "ordinal", desc := "()I" } : Jvm.MethodName) jdk_37_method_2_code (1 : Nat) (Option.some Jvm.ClassFile.FieldType.int)]
set_option maxRecDepth 65536 in
theorem codes_eq : words1.filter isCode = codes1 := rfl
theorem w_codes : ∀ c ∈ words1.filter isCode, c.before args0 about1 = true := by
  rw [codes_eq]
  intro c hc
  simp only [codes1, List.mem_cons, List.not_mem_nil, or_false] at hc
  rcases hc with rfl | rfl | rfl
  · exact w_c0
  · exact w_c1
  · exact w_c2
set_option maxRecDepth 65536 in
theorem w_t1 : (words1.take 24).all (fun c => isCode c || c.before args0 about1) = true := by decide +kernel
set_option maxRecDepth 65536 in
theorem w_t2 : (words1.drop 24).all (fun c => isCode c || c.before args0 about1) = true := by decide +kernel
theorem w_tables : (allAtoms (Jvm.Cond.code x code maxLocals ret :: tables_1)).before args0 about1 = true := by
  rw [allAtoms_all]
  show words1.all (fun c => c.before args0 about1) = true
  refine all_split ?_ w_codes
  rw [← List.take_append_drop 24 words1, List.all_append, w_t1, w_t2]
  rfl
set_option maxRecDepth 65536 in
theorem w_case : (Jvm.Cond.and given_1 narrow_1).before args0 about1 = true := by decide +kernel
theorem w_applies : (headSpec (Jvm.Cond.code x code maxLocals ret :: tables_1) room_1).applies x e0.platform about1 = true :=
  (Spec.applies_iff w_frames).mpr ⟨w_running, w_runnable, w_alone, w_named, w_hears, w_ripe, w_room, w_tables⟩
theorem atStart : AtStart classFile x code maxLocals ret World_1 tables_1 room_1 Calls_1 rest_1 Pre_1 launch0 p0 e0 about1 theMethod args0 below0 :=
  ⟨lists_1, trivial, launch0.admits_env _ _ _, launch0.least_env, fairChoices_fair.cas, fairChoices_fair.clock, w_frames, w_args, w_heap, w_applies, trivial, trivial, w_case⟩
end start1
theorem witness_1 : WitnessClaimed_1 := ⟨start1.p0, start1.e0, start1.about1, start1.theMethod, start1.args0, start1.below0, start1.atStart⟩
end Jvm.Pilot.@@N@@
