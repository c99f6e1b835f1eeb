import JvmDerived
import JvmDerived.Pilot.@@N@@Statement
import JvmDerived.Pilot.@@N@@Code
set_option linter.unusedVariables false
set_option linter.unusedSimpArgs false
namespace Jvm.Pilot.@@N@@
open Jvm Jvm.ClassFile Sem Op Lib Jvm.Free Jvm.Stand Jvm.LawKit Jvm.RoadKit Bundle Jvm.Pilot.@@N@@.Jvm.D
/-! own_Go: from the state S the run comes to an end of which R holds; a step is taken ahead of it (own_st), so that a walk can fork wherever it likes. -/
def own_Go (tb : Tables) (e : Env) (below : List Frame) (S : State) (R : Outcome → State → Prop) : Prop := ∃ t o, Steps tb e below S t ∧ t.status = .running ∧ Ended t below o ∧ R o t
theorem own_st {tb : Tables} {e : Env} {below : List Frame} {S S' : State} {R : Outcome → State → Prop} (h : ∀ t, Steps tb e below S' t → Steps tb e below S t) (k : own_Go tb e below S' R) : own_Go tb e below S R := by
  obtain ⟨t, o, h1, h2⟩ := k
  exact ⟨t, o, h t h1, h2⟩
abbrev own_R (s : State) (Q : Option Value → Heap → List Loc → Prop) (k n : Nat) (o : Outcome) (t : State) : Prop := ∃ v L, o = .returned v ∧ Q v t.heap L ∧ FrameEnd s o t L k n
abbrev own_Met (l : Launch) (y : MethodName) (bytes : ByteArray) (maxL : Nat) (rt : Option FieldType) (ws : List Jvm.Cond) (rm : Room) (as' : Array Value) (Z : State) (h0 : Heap) (Q : Option Value → Heap → List Loc → Prop) : Prop :=
  MetFree l y (head1 (Jvm.Cond.code y bytes maxL rt :: ws) rm) (fun a U => a = as' ∧ Z.Warmed39 U.vm ∧ U.heap = h0) (fun _ _ _ _ _ => True) (fun _ U o U' => ∃ v L, o = .returned v ∧ Q v U'.heap L ∧ FrameEnd U o U' L rm.cells rm.slots)
theorem own_body {l : Launch} {y : MethodName} {bytes : ByteArray} {maxL : Nat} {rt : Option FieldType} {ws : List Jvm.Cond} {rm : Room} {as' : Array Value} {Z : State} {h0 : Heap} {Q : Option Value → Heap → List Loc → Prop} (hp : plainFor y = true)
    (hb : ∀ (p : Program) (e : Env) (s : State) (m : MethodId) (below : List Frame) (meth : Method) (c : Code) (T : State), Stand p l e rm s m as' below meth c T [] 0 0 → p.tables.exec = Jvm.exec → c.code = bytes → c.maxLocals = maxL → s.vm.findClass y.cls = some m.cls → meth.name = y.name → meth.sig.returnType = rt → meth.locks = false → Z.Warmed39 s.vm → T.heap = h0 →
      own_Go p.tables e below (T.setTop (entryFrame m as' maxL)) (own_R s Q rm.cells rm.slots)) : own_Met l y bytes maxL rt ws rm as' Z h0 Q := by
  refine MetFree.of_bodySF hp hisR ?_
  intro p e s m args below meth c s₁ Bd hml0 hP hK
  obtain ⟨rfl, hZ, hh⟩ := hP
  exact hb p e s m below meth c s₁ (Stand.of_body Bd) Bd.exec Bd.bytes hml0 (findClass_of_methodNamed Bd.named) (name_of_methodNamed Bd.named Bd.method).1 Bd.returns Bd.notSynchronized hZ (by rw [← hh, Bd.state]; rfl)
section Own
variable {p : Program} {l : Launch} {e : Env} {R : Room} {s : State} {m : MethodId} {args : Array Value} {below : List Frame} {meth : Method} {c : Code} {T : State} {locs : List Loc} {cells slots : Nat} {Z : State} {a0 : Array Value} {h : Heap} {Q : Option Value → Heap → List Loc → Prop} {RR : Outcome → State → Prop}
theorem own_cat {v : Value} (q : v.isRef = true) : v.category = 1 := by cases v <;> simp [Value.isRef, Value.category] at q ⊢
theorem own_eqI {first : State} {o : Option Outcome} {idx : List Nat} {a : Term} {k : Int32} (q : (Jvm.Cond.eq a (.int k)).value args first o s idx = some true) : a.eval args first o idx s = some (.int k) := by
  simp only [Cond.value, Term.eval] at q
  cases ht : a.eval args first o idx s with
  | none => simp [ht] at q
  | some x => cases x <;> simp [ht] at q ⊢ <;> exact q
theorem own_Z0 {n0 : Nat} (O : Old Z n0 h) : n0 ≤ h.size := O.1 ▸ O.2.1
theorem own_leave (X : Stand p l e R s m args below meth c T locs cells slots) (hlk : meth.locks = false) {v : Option Value} (hv : meth.sig.returnType = none → v = none) {S : State} {k n : Nat} (hk : cells ≤ k) (hn : slots ≤ n) (hq : Q v T.heap locs)
    (st : ∀ fs : List Frame, (∀ (f : JFrame) (acts : List Action), f.method = m → f.locked = none → f.entered = [] → (doReturn e (T.setTop f) acts v).1 = T.setFrames fs) → Steps p.tables e below S (T.setFrames fs)) : own_Go p.tables e below S (own_R s Q k n) := by
  obtain ⟨fs, hr, hrun, hended, hW, hsame⟩ := X.leave (v := v) hv hlk
  exact ⟨_, _, st fs hr, hrun, hended, v, locs, rfl, hq, ⟨_, rfl⟩, hW, hsame.mono hk hn⟩
theorem own_retI (X : Stand p l e R s m args below meth c T locs cells slots) (hx : p.tables.exec = Jvm.exec) {pc : Nat} {Ls : Array Slot} {z : Int32} {rest : List Value} (hret : meth.sig.returnType = some .int) (hd : decode c.code pc = .ok (.ireturn, 1)) (hlk : meth.locks = false) {k n : Nat} (hk : cells ≤ k) (hn : slots ≤ n) (hq : Q (some (.int z)) T.heap locs) :
    own_Go p.tables e below (T.setTop (mkF m pc Ls (.int z :: rest))) (own_R s Q k n) := by
  refine own_leave X hlk (fun q => by rw [hret] at q; cases q) hk hn hq fun fs hl => ?_
  have hm' : T.vm.method? m = some meth := X.method'
  have hn : narrow .int (.int z) = .int z := rfl
  show Steps p.tables e below (T.setTop { method := m, pc := pc, locals := Ls, stack := _ :: rest, locked := none }) _
  jvm_step X.here [X.here.top, hx, hd, hm', hret, hn]
  first | (intro acts; rw [hl _ acts rfl rfl rfl]) | rw [hl _ _ rfl rfl rfl]
  exact Steps.refl _
theorem own_retZ (X : Stand p l e R s m args below meth c T locs cells slots) (hx : p.tables.exec = Jvm.exec) {pc : Nat} {Ls : Array Slot} {z : Int32} {t : FieldType} {rest : List Value} (hret : meth.sig.returnType = some t) (ht : t = .boolean ∨ t = .byte ∨ t = .char ∨ t = .short) (hd : decode c.code pc = .ok (.ireturn, 1)) (hlk : meth.locks = false) {k n : Nat} (hk : cells ≤ k) (hn : slots ≤ n) (hq : Q (some (.int (nar t z))) T.heap locs) :
    own_Go p.tables e below (T.setTop (mkF m pc Ls (.int z :: rest))) (own_R s Q k n) :=
  own_leave X hlk (fun q => by rw [hret] at q; cases q) hk hn hq fun fs hl => retN X hx hret ht hd hl
theorem own_retA (X : Stand p l e R s m args below meth c T locs cells slots) (hx : p.tables.exec = Jvm.exec) {pc : Nat} {Ls : Array Slot} {z : Value} {t : FieldType} {rest : List Value} (hret : meth.sig.returnType = some t) (ht : t.isReference = true) (hz : z.isRef = true) (hd : decode c.code pc = .ok (.areturn, 1)) (hlk : meth.locks = false) {k n : Nat} (hk : cells ≤ k) (hn : slots ≤ n) (hq : Q (some z) T.heap locs) :
    own_Go p.tables e below (T.setTop (mkF m pc Ls (z :: rest))) (own_R s Q k n) := by
  refine own_leave X hlk (fun q => by rw [hret] at q; cases q) hk hn hq fun fs hl => ?_
  have hm' : T.vm.method? m = some meth := X.method'
  show Steps p.tables e below (T.setTop { method := m, pc := pc, locals := Ls, stack := _ :: rest, locked := none }) _
  jvm_step X.here [X.here.top, hx, hd, hm', hret, ht, hz]
  first | (intro acts; rw [hl _ acts rfl rfl rfl]) | rw [hl _ _ rfl rfl rfl]
  exact Steps.refl _
theorem own_retJ (X : Stand p l e R s m args below meth c T locs cells slots) (hx : p.tables.exec = Jvm.exec) {pc : Nat} {Ls : Array Slot} {z : Int64} {rest : List Value} (hret : meth.sig.returnType = some .long) (hd : decode c.code pc = .ok (.lreturn, 1)) (hlk : meth.locks = false) {k n : Nat} (hk : cells ≤ k) (hn : slots ≤ n) (hq : Q (some (.long z)) T.heap locs) :
    own_Go p.tables e below (T.setTop (mkF m pc Ls (.long z :: rest))) (own_R s Q k n) := by
  refine own_leave X hlk (fun q => by rw [hret] at q; cases q) hk hn hq fun fs hl => ?_
  have hm' : T.vm.method? m = some meth := X.method'
  show Steps p.tables e below (T.setTop { method := m, pc := pc, locals := Ls, stack := _ :: rest, locked := none }) _
  jvm_step X.here [X.here.top, hx, hd, hm', hret, narrow]
  first | (intro acts; rw [hl _ acts rfl rfl rfl]) | rw [hl _ _ rfl rfl rfl]
  exact Steps.refl _
theorem own_retV (X : Stand p l e R s m args below meth c T locs cells slots) (hx : p.tables.exec = Jvm.exec) {pc : Nat} {Ls : Array Slot} (hret : meth.sig.returnType = none) (hd : decode c.code pc = .ok (.return_, 1)) (hlk : meth.locks = false) {k n : Nat} (hk : cells ≤ k) (hn : slots ≤ n) (hq : Q none T.heap locs) :
    own_Go p.tables e below (T.setTop (mkF m pc Ls [])) (own_R s Q k n) :=
  own_leave X hlk (fun _ => rfl) hk hn hq fun fs hl => X.returnOut hx hret hd hl
theorem own_callS (X : Stand p l e R s m args below meth c T locs cells slots) (hx : p.tables.exec = Jvm.exec) (hZ : Z.Warmed39 s.vm) {y : MethodName} {bytes : ByteArray} {maxL : Nat} {rt : Option FieldType} {rm : Room} {as' : Array Value}
    (hM : own_Met l y bytes maxL rt [] rm as' Z h Q) {own : String} {index : Nat} (hown : s.vm.findClass own = some m.cls) (w1 : (Cond.methodLink own index y).before a0 Z = true) (w2 : (Cond.static y).before a0 Z = true) (w3 : (Cond.initialized y.cls).before a0 Z = true) (w4 : (Cond.code y bytes maxL rt).before a0 Z = true)
    (hy : y.cls ≠ "java/lang/invoke/MethodHandle" ∧ y.cls ≠ "java/lang/invoke/VarHandle") {W : Nat} (hf : rm.frames + 1 ≤ R.frames) (hl : W + (maxL + 11) + rm.locals ≤ R.locals) {pc : Nat} {Ls : Array Slot} (hsz : Ls.size = c.maxLocals) {argsL rest st : List Value} (ha : argsL.toArray = as')
    (hlen : ∀ sig, parseMethodDescriptor y.desc = some sig → argsL.length = sig.parameters.length) (hst : st = argsL.reverse ++ rest) (hW : (rest.map fun v => v.category).sum ≤ W) (hd : decode c.code pc = .ok (.invokestatic index, 3)) (eT : T.heap = h) (hc : cells + rm.cells ≤ R.cells) (hs : slots + rm.slots ≤ R.slots)
    (k : ∀ (v : Option Value) (T' : State) (L : List Loc), Stand p l e R s m args below meth c T' (locs ++ L) (cells + rm.cells) (slots + rm.slots) → Q v T'.heap L → own_Go p.tables e below (T'.setTop (mkF m (pc + 3) Ls (v.toList ++ rest))) RR) :
    own_Go p.tables e below (T.setTop (mkF m pc Ls st)) RR := by
  subst ha
  obtain ⟨v, _, ⟨T', L', k', n'⟩, -, X', ⟨Lc, hQ, l', y', z'⟩, stp⟩ := Jvm.LawKit.callS X hx (y := y) hown (mvT hZ w1) (mvT hZ w2) (mvT hZ w3) (mvT hZ w4) hy (backOf (W := W) hM hZ w4 w3 hf hl) (g := mkF m pc Ls st) rfl hsz (argsL := argsL) (rest := rest) hlen hst (by show 2 * 0 + _ ≤ _; omega) hd (fun _ _ => ⟨rfl, eT, hc, hs⟩)
  dsimp only [Pt.U, Pt.locs, Pt.cells, Pt.slots] at X' l' y' z' stp hQ
  subst l' y' z'
  exact own_st stp (k v T' Lc X' hQ)
theorem own_callV (X : Stand p l e R s m args below meth c T locs cells slots) (hx : p.tables.exec = Jvm.exec) (hZ : Z.Warmed39 s.vm) {y : MethodName} {bytes : ByteArray} {maxL : Nat} {rt : Option FieldType} {rm : Room} {as' : Array Value}
    (hM : own_Met l y bytes maxL rt [] rm as' Z h Q) {own C : String} {index : Nat} (hown : s.vm.findClass own = some m.cls) (w1 : (Cond.methodLink own index y).before a0 Z = true) (w2 : (Cond.declares y).before a0 Z = true) (w3 : (Cond.selects C y y).before a0 Z = true) (w4 : (Cond.instanceMethod y).before a0 Z = true) (w5 : (Cond.code y bytes maxL rt).before a0 Z = true) (w6 : (Cond.initialized y.cls).before a0 Z = true)
    (hy : y.cls ≠ "java/lang/invoke/MethodHandle" ∧ y.cls ≠ "java/lang/invoke/VarHandle") {a : Addr} (E : Exa Z h a C) {W : Nat} (hf : rm.frames + 1 ≤ R.frames) (hl : W + (maxL + 11) + rm.locals ≤ R.locals) {pc : Nat} {Ls : Array Slot} (hsz : Ls.size = c.maxLocals) {argsL rest st : List Value} (ha : (Value.ref a :: argsL).toArray = as')
    (hlen : ∀ sig, parseMethodDescriptor y.desc = some sig → argsL.length = sig.parameters.length) (hst : st = argsL.reverse ++ .ref a :: rest) (hW : (rest.map fun v => v.category).sum ≤ W) (hd : decode c.code pc = .ok (.invokevirtual index, 3)) (eT : T.heap = h) (hc : cells + rm.cells ≤ R.cells) (hs : slots + rm.slots ≤ R.slots)
    (k : ∀ (v : Option Value) (T' : State) (L : List Loc), Stand p l e R s m args below meth c T' (locs ++ L) (cells + rm.cells) (slots + rm.slots) → Q v T'.heap L → own_Go p.tables e below (T'.setTop (mkF m (pc + 3) Ls (v.toList ++ rest))) RR) :
    own_Go p.tables e below (T.setTop (mkF m pc Ls st)) RR := by
  subst ha
  obtain ⟨cB, kB, qa, qb, qc⟩ := isOf hZ eT E
  obtain ⟨v, _, ⟨T', L', k', n'⟩, -, X', ⟨Lc, hQ, l', y', z'⟩, stp⟩ := X.virtualBack hx (y := y) (z := y) hown (mvT hZ w1) (mvT hZ w2) (notFace_of_selects (args := #[]) (mvT hZ w3)) (mvT hZ w3) (mvT hZ w4) hy (backOf (W := W) hM hZ w5 w6 hf hl) qa qc (g := mkF m pc Ls st) rfl hsz (Steps.refl _) (argsL := argsL) (rest := rest) hlen hst (by show 2 * 0 + _ ≤ _; omega) hd (fun _ _ => ⟨rfl, eT, hc, hs⟩)
  dsimp only [Pt.U, Pt.locs, Pt.cells, Pt.slots] at X' l' y' z' stp hQ
  subst l' y' z'
  exact own_st (fun t k => stp.trans k) (k v T' Lc X' hQ)
theorem own_callVU (X : Stand p l e R s m args below meth c T locs cells slots) (hx : p.tables.exec = Jvm.exec) (hZ : Z.Warmed39 s.vm) {x y : MethodName} {bytes : ByteArray} {maxL : Nat} {rt : Option FieldType} {rm : Room} {as' : Array Value}
    (hM : own_Met l y bytes maxL rt [] rm as' Z h Q) {own C owner : String} {index : Nat} (hown : s.vm.findClass own = some m.cls) (w1 : (Cond.methodLink own index x).before a0 Z = true) (w1' : (Cond.sameMethod x.cls owner x.name x.desc).before a0 Z = true) (w2 : (Cond.declares ⟨owner, x.name, x.desc⟩).before a0 Z = true) (w3 : (Cond.selects C x y).before a0 Z = true) (w4 : (Cond.instanceMethod y).before a0 Z = true) (w5 : (Cond.code y bytes maxL rt).before a0 Z = true) (w6 : (Cond.initialized y.cls).before a0 Z = true)
    (hy : owner ≠ "java/lang/invoke/MethodHandle" ∧ owner ≠ "java/lang/invoke/VarHandle") {a : Addr} (E : Exa Z h a C) {W : Nat} (hf : rm.frames + 1 ≤ R.frames) (hl : W + (maxL + 11) + rm.locals ≤ R.locals) {pc : Nat} {Ls : Array Slot} (hsz : Ls.size = c.maxLocals) {argsL rest st : List Value} (ha : (Value.ref a :: argsL).toArray = as')
    (hlen : ∀ sig, parseMethodDescriptor x.desc = some sig → argsL.length = sig.parameters.length) (hst : st = argsL.reverse ++ .ref a :: rest) (hW : (rest.map fun v => v.category).sum ≤ W) (hd : decode c.code pc = .ok (.invokevirtual index, 3)) (eT : T.heap = h) (hc : cells + rm.cells ≤ R.cells) (hs : slots + rm.slots ≤ R.slots)
    (k : ∀ (v : Option Value) (T' : State) (L : List Loc), Stand p l e R s m args below meth c T' (locs ++ L) (cells + rm.cells) (slots + rm.slots) → Q v T'.heap L → own_Go p.tables e below (T'.setTop (mkF m (pc + 3) Ls (v.toList ++ rest))) RR) :
    own_Go p.tables e below (T.setTop (mkF m pc Ls st)) RR := by
  subst ha
  obtain ⟨cB, kB, qa, qb, qc⟩ := isOf hZ eT E
  obtain ⟨v, _, ⟨T', L', k', n'⟩, -, X', ⟨Lc, hQ, l', y', z'⟩, stp⟩ := X.virtualBackUp hx hown (mvT hZ w1) (mvT hZ w1') (mvT hZ w2) hy (mvT hZ w3) (mvT hZ w4) (backOf (W := W) hM hZ w5 w6 hf hl) qa qc (g := mkF m pc Ls st) rfl hsz (Steps.refl _) (argsL := argsL) (rest := rest) hlen hst (by show 2 * 0 + _ ≤ _; omega) hd (fun _ _ => ⟨rfl, eT, hc, hs⟩)
  dsimp only [Pt.U, Pt.locs, Pt.cells, Pt.slots] at X' l' y' z' stp hQ
  subst l' y' z'
  exact own_st (fun t k => stp.trans k) (k v T' Lc X' hQ)
theorem own_iload (X : Stand p l e R s m args below meth c T locs cells slots) (hx : p.tables.exec = Jvm.exec) {B : ByteArray} (hby : c.code = B) {pc pc' : Nat} {Ls : Array Slot} {S : List Value} {k : Nat} {v : Int32} (hd : decode B pc = .ok (.iload k, 2)) (hp : pc + 2 = pc') (hl : Ls[k]? = some (.val (.int v))) (g : own_Go p.tables e below (T.setTop (mkF m pc' Ls (.int v :: S))) RR) : own_Go p.tables e below (T.setTop (mkF m pc Ls S)) RR := by
  subst hp
  exact own_st (fun t k => XS.iload X.here hx rfl (hb hby hd) hl k) g
theorem own_iloadN (X : Stand p l e R s m args below meth c T locs cells slots) (hx : p.tables.exec = Jvm.exec) {B : ByteArray} (hby : c.code = B) {pc pc' : Nat} {Ls : Array Slot} {S : List Value} {k : Fin 4} {v : Int32} (hd : decode B pc = .ok (.iload_n k, 1)) (hp : pc + 1 = pc') (hl : Ls[k.val]? = some (.val (.int v))) (g : own_Go p.tables e below (T.setTop (mkF m pc' Ls (.int v :: S))) RR) : own_Go p.tables e below (T.setTop (mkF m pc Ls S)) RR := by
  subst hp
  exact own_st (fun t k => XS.iloadN X.here hx rfl (hb hby hd) hl k) g
theorem own_lload (X : Stand p l e R s m args below meth c T locs cells slots) (hx : p.tables.exec = Jvm.exec) {B : ByteArray} (hby : c.code = B) {pc pc' : Nat} {Ls : Array Slot} {S : List Value} {k : Nat} {v : Int64} (hd : decode B pc = .ok (.lload k, 2)) (hp : pc + 2 = pc') (hl : Ls[k]? = some (.val (.long v))) (g : own_Go p.tables e below (T.setTop (mkF m pc' Ls (.long v :: S))) RR) : own_Go p.tables e below (T.setTop (mkF m pc Ls S)) RR := by
  subst hp
  exact own_st (fun t k => XS.lload X.here hx rfl (hb hby hd) hl k) g
theorem own_lloadN (X : Stand p l e R s m args below meth c T locs cells slots) (hx : p.tables.exec = Jvm.exec) {B : ByteArray} (hby : c.code = B) {pc pc' : Nat} {Ls : Array Slot} {S : List Value} {k : Fin 4} {v : Int64} (hd : decode B pc = .ok (.lload_n k, 1)) (hp : pc + 1 = pc') (hl : Ls[k.val]? = some (.val (.long v))) (g : own_Go p.tables e below (T.setTop (mkF m pc' Ls (.long v :: S))) RR) : own_Go p.tables e below (T.setTop (mkF m pc Ls S)) RR := by
  subst hp
  exact own_st (fun t k => XS.lloadN X.here hx rfl (hb hby hd) hl k) g
theorem own_aload (X : Stand p l e R s m args below meth c T locs cells slots) (hx : p.tables.exec = Jvm.exec) {B : ByteArray} (hby : c.code = B) {pc pc' : Nat} {Ls : Array Slot} {S : List Value} {k : Nat} {v : Value} (hd : decode B pc = .ok (.aload k, 2)) (hp : pc + 2 = pc') (hl : Ls[k]? = some (.val v)) (hv : v.isRef = true) (g : own_Go p.tables e below (T.setTop (mkF m pc' Ls (v :: S))) RR) : own_Go p.tables e below (T.setTop (mkF m pc Ls S)) RR := by
  subst hp
  exact own_st (fun t k => XS.aload X.here hx rfl (hb hby hd) hl hv k) g
theorem own_aloadN (X : Stand p l e R s m args below meth c T locs cells slots) (hx : p.tables.exec = Jvm.exec) {B : ByteArray} (hby : c.code = B) {pc pc' : Nat} {Ls : Array Slot} {S : List Value} {k : Fin 4} {v : Value} (hd : decode B pc = .ok (.aload_n k, 1)) (hp : pc + 1 = pc') (hl : Ls[k.val]? = some (.val v)) (hv : v.isRef = true) (g : own_Go p.tables e below (T.setTop (mkF m pc' Ls (v :: S))) RR) : own_Go p.tables e below (T.setTop (mkF m pc Ls S)) RR := by
  subst hp
  exact own_st (fun t k => XS.aloadN X.here hx rfl (hb hby hd) hl hv k) g
theorem own_istore (X : Stand p l e R s m args below meth c T locs cells slots) (hx : p.tables.exec = Jvm.exec) {B : ByteArray} (hby : c.code = B) {pc pc' : Nat} {Ls : Array Slot} {S : List Value} {k : Nat} {v : Int32} {Ls' : Array Slot} (hd : decode B pc = .ok (.istore k, 2)) (hp : pc + 2 = pc') (hl : storeLocals Ls k (.int v) = some Ls') (g : own_Go p.tables e below (T.setTop (mkF m pc' Ls' S)) RR) : own_Go p.tables e below (T.setTop (mkF m pc Ls (.int v :: S))) RR := by
  subst hp
  exact own_st (fun t k => XS.istore X.here hx rfl (hb hby hd) rfl hl k) g
theorem own_istoreN (X : Stand p l e R s m args below meth c T locs cells slots) (hx : p.tables.exec = Jvm.exec) {B : ByteArray} (hby : c.code = B) {pc pc' : Nat} {Ls : Array Slot} {S : List Value} {k : Fin 4} {v : Int32} {Ls' : Array Slot} (hd : decode B pc = .ok (.istore_n k, 1)) (hp : pc + 1 = pc') (hl : storeLocals Ls k.val (.int v) = some Ls') (g : own_Go p.tables e below (T.setTop (mkF m pc' Ls' S)) RR) : own_Go p.tables e below (T.setTop (mkF m pc Ls (.int v :: S))) RR := by
  subst hp
  exact own_st (fun t k => XS.istoreN X.here hx rfl (hb hby hd) rfl hl k) g
theorem own_lstore (X : Stand p l e R s m args below meth c T locs cells slots) (hx : p.tables.exec = Jvm.exec) {B : ByteArray} (hby : c.code = B) {pc pc' : Nat} {Ls : Array Slot} {S : List Value} {k : Nat} {v : Int64} {Ls' : Array Slot} (hd : decode B pc = .ok (.lstore k, 2)) (hp : pc + 2 = pc') (hl : storeLocals Ls k (.long v) = some Ls') (g : own_Go p.tables e below (T.setTop (mkF m pc' Ls' S)) RR) : own_Go p.tables e below (T.setTop (mkF m pc Ls (.long v :: S))) RR := by
  subst hp
  exact own_st (fun t k => XS.lstore X.here hx rfl (hb hby hd) rfl hl k) g
theorem own_lstoreN (X : Stand p l e R s m args below meth c T locs cells slots) (hx : p.tables.exec = Jvm.exec) {B : ByteArray} (hby : c.code = B) {pc pc' : Nat} {Ls : Array Slot} {S : List Value} {k : Fin 4} {v : Int64} {Ls' : Array Slot} (hd : decode B pc = .ok (.lstore_n k, 1)) (hp : pc + 1 = pc') (hl : storeLocals Ls k.val (.long v) = some Ls') (g : own_Go p.tables e below (T.setTop (mkF m pc' Ls' S)) RR) : own_Go p.tables e below (T.setTop (mkF m pc Ls (.long v :: S))) RR := by
  subst hp
  exact own_st (fun t k => XS.lstoreN X.here hx rfl (hb hby hd) rfl hl k) g
theorem own_astore (X : Stand p l e R s m args below meth c T locs cells slots) (hx : p.tables.exec = Jvm.exec) {B : ByteArray} (hby : c.code = B) {pc pc' : Nat} {Ls : Array Slot} {S : List Value} {k : Nat} {v : Value} {Ls' : Array Slot} (hd : decode B pc = .ok (.astore k, 2)) (hp : pc + 2 = pc') (hv : v.isRef = true) (hl : storeLocals Ls k v = some Ls') (g : own_Go p.tables e below (T.setTop (mkF m pc' Ls' S)) RR) : own_Go p.tables e below (T.setTop (mkF m pc Ls (v :: S))) RR := by
  subst hp
  exact own_st (fun t k => XS.astore X.here hx rfl (hb hby hd) rfl hv hl k) g
theorem own_astoreN (X : Stand p l e R s m args below meth c T locs cells slots) (hx : p.tables.exec = Jvm.exec) {B : ByteArray} (hby : c.code = B) {pc pc' : Nat} {Ls : Array Slot} {S : List Value} {k : Fin 4} {v : Value} {Ls' : Array Slot} (hd : decode B pc = .ok (.astore_n k, 1)) (hp : pc + 1 = pc') (hv : v.isRef = true) (hl : storeLocals Ls k.val v = some Ls') (g : own_Go p.tables e below (T.setTop (mkF m pc' Ls' S)) RR) : own_Go p.tables e below (T.setTop (mkF m pc Ls (v :: S))) RR := by
  subst hp
  exact own_st (fun t k => XS.astoreN X.here hx rfl (hb hby hd) rfl hv hl k) g
theorem own_iconst (X : Stand p l e R s m args below meth c T locs cells slots) (hx : p.tables.exec = Jvm.exec) {B : ByteArray} (hby : c.code = B) {pc pc' : Nat} {Ls : Array Slot} {S : List Value} {i : Int} {z : Int32} (hd : decode B pc = .ok (.iconst i, 1)) (hp : pc + 1 = pc') (hz : Int32.ofInt i = z) (g : own_Go p.tables e below (T.setTop (mkF m pc' Ls (.int z :: S))) RR) : own_Go p.tables e below (T.setTop (mkF m pc Ls S)) RR := by
  subst hp
  subst hz
  exact own_st (fun t k => XS.iconst X.here hx rfl (hb hby hd) k) g
theorem own_bipush (X : Stand p l e R s m args below meth c T locs cells slots) (hx : p.tables.exec = Jvm.exec) {B : ByteArray} (hby : c.code = B) {pc pc' : Nat} {Ls : Array Slot} {S : List Value} {i : Int} {z : Int32} (hd : decode B pc = .ok (.bipush i, 2)) (hp : pc + 2 = pc') (hz : (Int8.ofInt i).toInt32 = z) (g : own_Go p.tables e below (T.setTop (mkF m pc' Ls (.int z :: S))) RR) : own_Go p.tables e below (T.setTop (mkF m pc Ls S)) RR := by
  subst hp
  subst hz
  exact own_st (fun t k => XS.bipush X.here hx rfl (hb hby hd) k) g
theorem own_sipush (X : Stand p l e R s m args below meth c T locs cells slots) (hx : p.tables.exec = Jvm.exec) {B : ByteArray} (hby : c.code = B) {pc pc' : Nat} {Ls : Array Slot} {S : List Value} {i : Int} {z : Int32} (hd : decode B pc = .ok (.sipush i, 3)) (hp : pc + 3 = pc') (hz : (Int16.ofInt i).toInt32 = z) (g : own_Go p.tables e below (T.setTop (mkF m pc' Ls (.int z :: S))) RR) : own_Go p.tables e below (T.setTop (mkF m pc Ls S)) RR := by
  subst hp
  subst hz
  exact own_st (fun t k => XS.sipush X.here hx rfl (hb hby hd) k) g
theorem own_lconst (X : Stand p l e R s m args below meth c T locs cells slots) (hx : p.tables.exec = Jvm.exec) {B : ByteArray} (hby : c.code = B) {pc pc' : Nat} {Ls : Array Slot} {S : List Value} {k : Fin 2} {z : Int64} (hd : decode B pc = .ok (.lconst k, 1)) (hp : pc + 1 = pc') (hz : Int64.ofNat k = z) (g : own_Go p.tables e below (T.setTop (mkF m pc' Ls (.long z :: S))) RR) : own_Go p.tables e below (T.setTop (mkF m pc Ls S)) RR := by
  subst hp
  subst hz
  exact own_st (fun t k => XS.lconst X.here hx rfl (hb hby hd) k) g
theorem own_aconst_null (X : Stand p l e R s m args below meth c T locs cells slots) (hx : p.tables.exec = Jvm.exec) {B : ByteArray} (hby : c.code = B) {pc pc' : Nat} {Ls : Array Slot} {S : List Value}  (hd : decode B pc = .ok (.aconst_null, 1)) (hp : pc + 1 = pc')  (g : own_Go p.tables e below (T.setTop (mkF m pc' Ls (.null :: S))) RR) : own_Go p.tables e below (T.setTop (mkF m pc Ls S)) RR := by
  subst hp
  exact own_st (fun t k => XS.aconstNull X.here hx rfl (hb hby hd) k) g
theorem own_iadd (X : Stand p l e R s m args below meth c T locs cells slots) (hx : p.tables.exec = Jvm.exec) {B : ByteArray} (hby : c.code = B) {pc pc' : Nat} {Ls : Array Slot} {S : List Value} {x y z : Int32} (hd : decode B pc = .ok (.iadd, 1)) (hp : pc + 1 = pc') (hz : x + y = z) (g : own_Go p.tables e below (T.setTop (mkF m pc' Ls (.int z :: S))) RR) : own_Go p.tables e below (T.setTop (mkF m pc Ls (.int y :: .int x :: S))) RR := by
  subst hp
  subst hz
  exact own_st (fun t k => XS.iadd X.here hx rfl (hb hby hd) rfl k) g
theorem own_ladd (X : Stand p l e R s m args below meth c T locs cells slots) (hx : p.tables.exec = Jvm.exec) {B : ByteArray} (hby : c.code = B) {pc pc' : Nat} {Ls : Array Slot} {S : List Value} {x y z : Int64} (hd : decode B pc = .ok (.ladd, 1)) (hp : pc + 1 = pc') (hz : x + y = z) (g : own_Go p.tables e below (T.setTop (mkF m pc' Ls (.long z :: S))) RR) : own_Go p.tables e below (T.setTop (mkF m pc Ls (.long y :: .long x :: S))) RR := by
  subst hp
  subst hz
  exact own_st (fun t k => XS.ladd X.here hx rfl (hb hby hd) rfl k) g
theorem own_isub (X : Stand p l e R s m args below meth c T locs cells slots) (hx : p.tables.exec = Jvm.exec) {B : ByteArray} (hby : c.code = B) {pc pc' : Nat} {Ls : Array Slot} {S : List Value} {x y z : Int32} (hd : decode B pc = .ok (.isub, 1)) (hp : pc + 1 = pc') (hz : x - y = z) (g : own_Go p.tables e below (T.setTop (mkF m pc' Ls (.int z :: S))) RR) : own_Go p.tables e below (T.setTop (mkF m pc Ls (.int y :: .int x :: S))) RR := by
  subst hp
  subst hz
  exact own_st (fun t k => XS.isub X.here hx rfl (hb hby hd) rfl k) g
theorem own_lsub (X : Stand p l e R s m args below meth c T locs cells slots) (hx : p.tables.exec = Jvm.exec) {B : ByteArray} (hby : c.code = B) {pc pc' : Nat} {Ls : Array Slot} {S : List Value} {x y z : Int64} (hd : decode B pc = .ok (.lsub, 1)) (hp : pc + 1 = pc') (hz : x - y = z) (g : own_Go p.tables e below (T.setTop (mkF m pc' Ls (.long z :: S))) RR) : own_Go p.tables e below (T.setTop (mkF m pc Ls (.long y :: .long x :: S))) RR := by
  subst hp
  subst hz
  exact own_st (fun t k => XS.lsub X.here hx rfl (hb hby hd) rfl k) g
theorem own_imul (X : Stand p l e R s m args below meth c T locs cells slots) (hx : p.tables.exec = Jvm.exec) {B : ByteArray} (hby : c.code = B) {pc pc' : Nat} {Ls : Array Slot} {S : List Value} {x y z : Int32} (hd : decode B pc = .ok (.imul, 1)) (hp : pc + 1 = pc') (hz : x * y = z) (g : own_Go p.tables e below (T.setTop (mkF m pc' Ls (.int z :: S))) RR) : own_Go p.tables e below (T.setTop (mkF m pc Ls (.int y :: .int x :: S))) RR := by
  subst hp
  subst hz
  exact own_st (fun t k => XS.imul X.here hx rfl (hb hby hd) rfl k) g
theorem own_lmul (X : Stand p l e R s m args below meth c T locs cells slots) (hx : p.tables.exec = Jvm.exec) {B : ByteArray} (hby : c.code = B) {pc pc' : Nat} {Ls : Array Slot} {S : List Value} {x y z : Int64} (hd : decode B pc = .ok (.lmul, 1)) (hp : pc + 1 = pc') (hz : x * y = z) (g : own_Go p.tables e below (T.setTop (mkF m pc' Ls (.long z :: S))) RR) : own_Go p.tables e below (T.setTop (mkF m pc Ls (.long y :: .long x :: S))) RR := by
  subst hp
  subst hz
  exact own_st (fun t k => XS.lmul X.here hx rfl (hb hby hd) rfl k) g
theorem own_iand (X : Stand p l e R s m args below meth c T locs cells slots) (hx : p.tables.exec = Jvm.exec) {B : ByteArray} (hby : c.code = B) {pc pc' : Nat} {Ls : Array Slot} {S : List Value} {x y z : Int32} (hd : decode B pc = .ok (.iand, 1)) (hp : pc + 1 = pc') (hz : x &&& y = z) (g : own_Go p.tables e below (T.setTop (mkF m pc' Ls (.int z :: S))) RR) : own_Go p.tables e below (T.setTop (mkF m pc Ls (.int y :: .int x :: S))) RR := by
  subst hp
  subst hz
  exact own_st (fun t k => XS.iand X.here hx rfl (hb hby hd) rfl k) g
theorem own_land (X : Stand p l e R s m args below meth c T locs cells slots) (hx : p.tables.exec = Jvm.exec) {B : ByteArray} (hby : c.code = B) {pc pc' : Nat} {Ls : Array Slot} {S : List Value} {x y z : Int64} (hd : decode B pc = .ok (.land, 1)) (hp : pc + 1 = pc') (hz : x &&& y = z) (g : own_Go p.tables e below (T.setTop (mkF m pc' Ls (.long z :: S))) RR) : own_Go p.tables e below (T.setTop (mkF m pc Ls (.long y :: .long x :: S))) RR := by
  subst hp
  subst hz
  exact own_st (fun t k => XS.land X.here hx rfl (hb hby hd) rfl k) g
theorem own_ior (X : Stand p l e R s m args below meth c T locs cells slots) (hx : p.tables.exec = Jvm.exec) {B : ByteArray} (hby : c.code = B) {pc pc' : Nat} {Ls : Array Slot} {S : List Value} {x y z : Int32} (hd : decode B pc = .ok (.ior, 1)) (hp : pc + 1 = pc') (hz : x ||| y = z) (g : own_Go p.tables e below (T.setTop (mkF m pc' Ls (.int z :: S))) RR) : own_Go p.tables e below (T.setTop (mkF m pc Ls (.int y :: .int x :: S))) RR := by
  subst hp
  subst hz
  exact own_st (fun t k => XS.ior X.here hx rfl (hb hby hd) rfl k) g
theorem own_lor (X : Stand p l e R s m args below meth c T locs cells slots) (hx : p.tables.exec = Jvm.exec) {B : ByteArray} (hby : c.code = B) {pc pc' : Nat} {Ls : Array Slot} {S : List Value} {x y z : Int64} (hd : decode B pc = .ok (.lor, 1)) (hp : pc + 1 = pc') (hz : x ||| y = z) (g : own_Go p.tables e below (T.setTop (mkF m pc' Ls (.long z :: S))) RR) : own_Go p.tables e below (T.setTop (mkF m pc Ls (.long y :: .long x :: S))) RR := by
  subst hp
  subst hz
  exact own_st (fun t k => XS.lor X.here hx rfl (hb hby hd) rfl k) g
theorem own_ixor (X : Stand p l e R s m args below meth c T locs cells slots) (hx : p.tables.exec = Jvm.exec) {B : ByteArray} (hby : c.code = B) {pc pc' : Nat} {Ls : Array Slot} {S : List Value} {x y z : Int32} (hd : decode B pc = .ok (.ixor, 1)) (hp : pc + 1 = pc') (hz : x ^^^ y = z) (g : own_Go p.tables e below (T.setTop (mkF m pc' Ls (.int z :: S))) RR) : own_Go p.tables e below (T.setTop (mkF m pc Ls (.int y :: .int x :: S))) RR := by
  subst hp
  subst hz
  exact own_st (fun t k => XS.ixor X.here hx rfl (hb hby hd) rfl k) g
theorem own_lxor (X : Stand p l e R s m args below meth c T locs cells slots) (hx : p.tables.exec = Jvm.exec) {B : ByteArray} (hby : c.code = B) {pc pc' : Nat} {Ls : Array Slot} {S : List Value} {x y z : Int64} (hd : decode B pc = .ok (.lxor, 1)) (hp : pc + 1 = pc') (hz : x ^^^ y = z) (g : own_Go p.tables e below (T.setTop (mkF m pc' Ls (.long z :: S))) RR) : own_Go p.tables e below (T.setTop (mkF m pc Ls (.long y :: .long x :: S))) RR := by
  subst hp
  subst hz
  exact own_st (fun t k => XS.lxor X.here hx rfl (hb hby hd) rfl k) g
theorem own_ishl (X : Stand p l e R s m args below meth c T locs cells slots) (hx : p.tables.exec = Jvm.exec) {B : ByteArray} (hby : c.code = B) {pc pc' : Nat} {Ls : Array Slot} {S : List Value} {x y z : Int32} (hd : decode B pc = .ok (.ishl, 1)) (hp : pc + 1 = pc') (hz : x <<< (y &&& 31) = z) (g : own_Go p.tables e below (T.setTop (mkF m pc' Ls (.int z :: S))) RR) : own_Go p.tables e below (T.setTop (mkF m pc Ls (.int y :: .int x :: S))) RR := by
  subst hp
  subst hz
  exact own_st (fun t k => XS.ishl X.here hx rfl (hb hby hd) rfl k) g
theorem own_ishr (X : Stand p l e R s m args below meth c T locs cells slots) (hx : p.tables.exec = Jvm.exec) {B : ByteArray} (hby : c.code = B) {pc pc' : Nat} {Ls : Array Slot} {S : List Value} {x y z : Int32} (hd : decode B pc = .ok (.ishr, 1)) (hp : pc + 1 = pc') (hz : x >>> (y &&& 31) = z) (g : own_Go p.tables e below (T.setTop (mkF m pc' Ls (.int z :: S))) RR) : own_Go p.tables e below (T.setTop (mkF m pc Ls (.int y :: .int x :: S))) RR := by
  subst hp
  subst hz
  exact own_st (fun t k => XS.ishr X.here hx rfl (hb hby hd) rfl k) g
theorem own_iushr (X : Stand p l e R s m args below meth c T locs cells slots) (hx : p.tables.exec = Jvm.exec) {B : ByteArray} (hby : c.code = B) {pc pc' : Nat} {Ls : Array Slot} {S : List Value} {x y z : Int32} (hd : decode B pc = .ok (.iushr, 1)) (hp : pc + 1 = pc') (hz : (x.toUInt32 >>> (y &&& 31).toUInt32).toInt32 = z) (g : own_Go p.tables e below (T.setTop (mkF m pc' Ls (.int z :: S))) RR) : own_Go p.tables e below (T.setTop (mkF m pc Ls (.int y :: .int x :: S))) RR := by
  subst hp
  subst hz
  exact own_st (fun t k => XS.iushr X.here hx rfl (hb hby hd) rfl k) g
theorem own_lshl (X : Stand p l e R s m args below meth c T locs cells slots) (hx : p.tables.exec = Jvm.exec) {B : ByteArray} (hby : c.code = B) {pc pc' : Nat} {Ls : Array Slot} {S : List Value} {x z : Int64} {y : Int32} (hd : decode B pc = .ok (.lshl, 1)) (hp : pc + 1 = pc') (hz : x <<< (y &&& 0x3f).toInt64 = z) (g : own_Go p.tables e below (T.setTop (mkF m pc' Ls (.long z :: S))) RR) : own_Go p.tables e below (T.setTop (mkF m pc Ls (.int y :: .long x :: S))) RR := by
  subst hp
  subst hz
  exact own_st (fun t k => XS.lshl X.here hx rfl (hb hby hd) rfl k) g
theorem own_lshr (X : Stand p l e R s m args below meth c T locs cells slots) (hx : p.tables.exec = Jvm.exec) {B : ByteArray} (hby : c.code = B) {pc pc' : Nat} {Ls : Array Slot} {S : List Value} {x z : Int64} {y : Int32} (hd : decode B pc = .ok (.lshr, 1)) (hp : pc + 1 = pc') (hz : x >>> (y &&& 0x3f).toInt64 = z) (g : own_Go p.tables e below (T.setTop (mkF m pc' Ls (.long z :: S))) RR) : own_Go p.tables e below (T.setTop (mkF m pc Ls (.int y :: .long x :: S))) RR := by
  subst hp
  subst hz
  exact own_st (fun t k => XS.lshr X.here hx rfl (hb hby hd) rfl k) g
theorem own_lushr (X : Stand p l e R s m args below meth c T locs cells slots) (hx : p.tables.exec = Jvm.exec) {B : ByteArray} (hby : c.code = B) {pc pc' : Nat} {Ls : Array Slot} {S : List Value} {x z : Int64} {y : Int32} (hd : decode B pc = .ok (.lushr, 1)) (hp : pc + 1 = pc') (hz : (x.toUInt64 >>> (y &&& 0x3f).toInt64.toUInt64).toInt64 = z) (g : own_Go p.tables e below (T.setTop (mkF m pc' Ls (.long z :: S))) RR) : own_Go p.tables e below (T.setTop (mkF m pc Ls (.int y :: .long x :: S))) RR := by
  subst hp
  subst hz
  exact own_st (fun t k => XS.lushr X.here hx rfl (hb hby hd) rfl k) g
theorem own_ineg (X : Stand p l e R s m args below meth c T locs cells slots) (hx : p.tables.exec = Jvm.exec) {B : ByteArray} (hby : c.code = B) {pc pc' : Nat} {Ls : Array Slot} {S : List Value} {x : Int32} {z : Int32} (hd : decode B pc = .ok (.ineg, 1)) (hp : pc + 1 = pc') (hz : -x = z) (g : own_Go p.tables e below (T.setTop (mkF m pc' Ls (.int z :: S))) RR) : own_Go p.tables e below (T.setTop (mkF m pc Ls (.int x :: S))) RR := by
  subst hp
  subst hz
  exact own_st (fun t k => XS.ineg X.here hx rfl (hb hby hd) rfl k) g
theorem own_lneg (X : Stand p l e R s m args below meth c T locs cells slots) (hx : p.tables.exec = Jvm.exec) {B : ByteArray} (hby : c.code = B) {pc pc' : Nat} {Ls : Array Slot} {S : List Value} {x : Int64} {z : Int64} (hd : decode B pc = .ok (.lneg, 1)) (hp : pc + 1 = pc') (hz : -x = z) (g : own_Go p.tables e below (T.setTop (mkF m pc' Ls (.long z :: S))) RR) : own_Go p.tables e below (T.setTop (mkF m pc Ls (.long x :: S))) RR := by
  subst hp
  subst hz
  exact own_st (fun t k => XS.lneg X.here hx rfl (hb hby hd) rfl k) g
theorem own_i2l (X : Stand p l e R s m args below meth c T locs cells slots) (hx : p.tables.exec = Jvm.exec) {B : ByteArray} (hby : c.code = B) {pc pc' : Nat} {Ls : Array Slot} {S : List Value} {x : Int32} {z : Int64} (hd : decode B pc = .ok (.i2l, 1)) (hp : pc + 1 = pc') (hz : x.toInt64 = z) (g : own_Go p.tables e below (T.setTop (mkF m pc' Ls (.long z :: S))) RR) : own_Go p.tables e below (T.setTop (mkF m pc Ls (.int x :: S))) RR := by
  subst hp
  subst hz
  exact own_st (fun t k => XS.i2l X.here hx rfl (hb hby hd) rfl k) g
theorem own_l2i (X : Stand p l e R s m args below meth c T locs cells slots) (hx : p.tables.exec = Jvm.exec) {B : ByteArray} (hby : c.code = B) {pc pc' : Nat} {Ls : Array Slot} {S : List Value} {x : Int64} {z : Int32} (hd : decode B pc = .ok (.l2i, 1)) (hp : pc + 1 = pc') (hz : x.toInt32 = z) (g : own_Go p.tables e below (T.setTop (mkF m pc' Ls (.int z :: S))) RR) : own_Go p.tables e below (T.setTop (mkF m pc Ls (.long x :: S))) RR := by
  subst hp
  subst hz
  exact own_st (fun t k => XS.l2i X.here hx rfl (hb hby hd) rfl k) g
theorem own_i2b (X : Stand p l e R s m args below meth c T locs cells slots) (hx : p.tables.exec = Jvm.exec) {B : ByteArray} (hby : c.code = B) {pc pc' : Nat} {Ls : Array Slot} {S : List Value} {x : Int32} {z : Int32} (hd : decode B pc = .ok (.i2b, 1)) (hp : pc + 1 = pc') (hz : x.toInt8.toInt32 = z) (g : own_Go p.tables e below (T.setTop (mkF m pc' Ls (.int z :: S))) RR) : own_Go p.tables e below (T.setTop (mkF m pc Ls (.int x :: S))) RR := by
  subst hp
  subst hz
  exact own_st (fun t k => XS.i2b X.here hx rfl (hb hby hd) rfl k) g
theorem own_i2s (X : Stand p l e R s m args below meth c T locs cells slots) (hx : p.tables.exec = Jvm.exec) {B : ByteArray} (hby : c.code = B) {pc pc' : Nat} {Ls : Array Slot} {S : List Value} {x : Int32} {z : Int32} (hd : decode B pc = .ok (.i2s, 1)) (hp : pc + 1 = pc') (hz : x.toInt16.toInt32 = z) (g : own_Go p.tables e below (T.setTop (mkF m pc' Ls (.int z :: S))) RR) : own_Go p.tables e below (T.setTop (mkF m pc Ls (.int x :: S))) RR := by
  subst hp
  subst hz
  exact own_st (fun t k => XS.i2s X.here hx rfl (hb hby hd) rfl k) g
theorem own_i2c (X : Stand p l e R s m args below meth c T locs cells slots) (hx : p.tables.exec = Jvm.exec) {B : ByteArray} (hby : c.code = B) {pc pc' : Nat} {Ls : Array Slot} {S : List Value} {x : Int32} {z : Int32} (hd : decode B pc = .ok (.i2c, 1)) (hp : pc + 1 = pc') (hz : x.toUInt32.toUInt16.toUInt32.toInt32 = z) (g : own_Go p.tables e below (T.setTop (mkF m pc' Ls (.int z :: S))) RR) : own_Go p.tables e below (T.setTop (mkF m pc Ls (.int x :: S))) RR := by
  subst hp
  subst hz
  exact own_st (fun t k => XS.i2c X.here hx rfl (hb hby hd) rfl k) g
theorem own_idiv (X : Stand p l e R s m args below meth c T locs cells slots) (hx : p.tables.exec = Jvm.exec) {B : ByteArray} (hby : c.code = B) {pc pc' : Nat} {Ls : Array Slot} {S : List Value} {x y z : Int32} (hd : decode B pc = .ok (.idiv, 1)) (hp : pc + 1 = pc') (hy : y ≠ 0) (hz : x / y = z) (g : own_Go p.tables e below (T.setTop (mkF m pc' Ls (.int z :: S))) RR) : own_Go p.tables e below (T.setTop (mkF m pc Ls (.int y :: .int x :: S))) RR := by
  subst hp
  subst hz
  exact own_st (fun t k => XS.idiv X.here hx rfl (hb hby hd) rfl hy k) g
theorem own_ldiv (X : Stand p l e R s m args below meth c T locs cells slots) (hx : p.tables.exec = Jvm.exec) {B : ByteArray} (hby : c.code = B) {pc pc' : Nat} {Ls : Array Slot} {S : List Value} {x y z : Int64} (hd : decode B pc = .ok (.ldiv, 1)) (hp : pc + 1 = pc') (hy : y ≠ 0) (hz : x / y = z) (g : own_Go p.tables e below (T.setTop (mkF m pc' Ls (.long z :: S))) RR) : own_Go p.tables e below (T.setTop (mkF m pc Ls (.long y :: .long x :: S))) RR := by
  subst hp
  subst hz
  exact own_st (fun t k => XS.ldiv X.here hx rfl (hb hby hd) rfl hy k) g
theorem own_irem (X : Stand p l e R s m args below meth c T locs cells slots) (hx : p.tables.exec = Jvm.exec) {B : ByteArray} (hby : c.code = B) {pc pc' : Nat} {Ls : Array Slot} {S : List Value} {x y z : Int32} (hd : decode B pc = .ok (.irem, 1)) (hp : pc + 1 = pc') (hy : y ≠ 0) (hz : x - (x / y) * y = z) (g : own_Go p.tables e below (T.setTop (mkF m pc' Ls (.int z :: S))) RR) : own_Go p.tables e below (T.setTop (mkF m pc Ls (.int y :: .int x :: S))) RR := by
  subst hp
  subst hz
  exact own_st (fun t k => XS.irem X.here hx rfl (hb hby hd) rfl hy k) g
theorem own_lrem (X : Stand p l e R s m args below meth c T locs cells slots) (hx : p.tables.exec = Jvm.exec) {B : ByteArray} (hby : c.code = B) {pc pc' : Nat} {Ls : Array Slot} {S : List Value} {x y z : Int64} (hd : decode B pc = .ok (.lrem, 1)) (hp : pc + 1 = pc') (hy : y ≠ 0) (hz : x - (x / y) * y = z) (g : own_Go p.tables e below (T.setTop (mkF m pc' Ls (.long z :: S))) RR) : own_Go p.tables e below (T.setTop (mkF m pc Ls (.long y :: .long x :: S))) RR := by
  subst hp
  subst hz
  exact own_st (fun t k => XS.lrem X.here hx rfl (hb hby hd) rfl hy k) g
theorem own_lcmp (X : Stand p l e R s m args below meth c T locs cells slots) (hx : p.tables.exec = Jvm.exec) {B : ByteArray} (hby : c.code = B) {pc pc' : Nat} {Ls : Array Slot} {S : List Value} {x y : Int64} (hd : decode B pc = .ok (.lcmp, 1)) (hp : pc + 1 = pc')  (g : own_Go p.tables e below (T.setTop (mkF m pc' Ls (.int (lcmpW x y) :: S))) RR) : own_Go p.tables e below (T.setTop (mkF m pc Ls (.long y :: .long x :: S))) RR := by
  subst hp
  exact own_st (fun t k => XS.lcmp X.here hx rfl (hb hby hd) rfl k) g
theorem own_iinc (X : Stand p l e R s m args below meth c T locs cells slots) (hx : p.tables.exec = Jvm.exec) {B : ByteArray} (hby : c.code = B) {pc pc' : Nat} {Ls : Array Slot} {S : List Value} {k : Nat} {cst : Int} {x z : Int32} {Ls' : Array Slot} (hd : decode B pc = .ok (.iinc k cst, 3)) (hp : pc + 3 = pc') (hl : Ls[k]? = some (.val (.int x))) (hz : x + Int32.ofInt cst = z) (hl' : storeLocals Ls k (.int z) = some Ls') (g : own_Go p.tables e below (T.setTop (mkF m pc' Ls' S)) RR) : own_Go p.tables e below (T.setTop (mkF m pc Ls S)) RR := by
  subst hp
  subst hz
  exact own_st (fun t k => XS.iinc X.here hx rfl (hb hby hd) hl hl' k) g
theorem own_dup (X : Stand p l e R s m args below meth c T locs cells slots) (hx : p.tables.exec = Jvm.exec) {B : ByteArray} (hby : c.code = B) {pc pc' : Nat} {Ls : Array Slot} {S : List Value} {x : Value} (hd : decode B pc = .ok (.dup, 1)) (hp : pc + 1 = pc') (hc : x.category = 1) (g : own_Go p.tables e below (T.setTop (mkF m pc' Ls (x :: x :: S))) RR) : own_Go p.tables e below (T.setTop (mkF m pc Ls (x :: S))) RR := by
  subst hp
  exact own_st (fun t k => XS.dup X.here hx rfl (hb hby hd) rfl hc k) g
theorem own_dup_x1 (X : Stand p l e R s m args below meth c T locs cells slots) (hx : p.tables.exec = Jvm.exec) {B : ByteArray} (hby : c.code = B) {pc pc' : Nat} {Ls : Array Slot} {S : List Value} {x y : Value} (hd : decode B pc = .ok (.dup_x1, 1)) (hp : pc + 1 = pc') (hc : x.category = 1) (hc' : y.category = 1) (g : own_Go p.tables e below (T.setTop (mkF m pc' Ls (x :: y :: x :: S))) RR) : own_Go p.tables e below (T.setTop (mkF m pc Ls (x :: y :: S))) RR := by
  subst hp
  exact own_st (fun t k => XS.dupX1 X.here hx rfl (hb hby hd) rfl hc hc' k) g
theorem own_dup2 (X : Stand p l e R s m args below meth c T locs cells slots) (hx : p.tables.exec = Jvm.exec) {B : ByteArray} (hby : c.code = B) {pc pc' : Nat} {Ls : Array Slot} {S : List Value} {x y : Value} (hd : decode B pc = .ok (.dup2, 1)) (hp : pc + 1 = pc') (hc : x.category = 1) (hc' : y.category = 1) (g : own_Go p.tables e below (T.setTop (mkF m pc' Ls (x :: y :: x :: y :: S))) RR) : own_Go p.tables e below (T.setTop (mkF m pc Ls (x :: y :: S))) RR := by
  subst hp
  exact own_st (fun t k => Jvm.Free.XT.dup2 X.here hx rfl (hb hby hd) rfl hc hc' k) g
theorem own_dup2L (X : Stand p l e R s m args below meth c T locs cells slots) (hx : p.tables.exec = Jvm.exec) {B : ByteArray} (hby : c.code = B) {pc pc' : Nat} {Ls : Array Slot} {S : List Value} {x : Int64} (hd : decode B pc = .ok (.dup2, 1)) (hp : pc + 1 = pc')  (g : own_Go p.tables e below (T.setTop (mkF m pc' Ls (.long x :: .long x :: S))) RR) : own_Go p.tables e below (T.setTop (mkF m pc Ls (.long x :: S))) RR := by
  subst hp
  exact own_st (fun t k => Jvm.Free.XT.dup2L X.here hx rfl (hb hby hd) rfl k) g
theorem own_pop (X : Stand p l e R s m args below meth c T locs cells slots) (hx : p.tables.exec = Jvm.exec) {B : ByteArray} (hby : c.code = B) {pc pc' : Nat} {Ls : Array Slot} {S : List Value} {x : Value} (hd : decode B pc = .ok (.pop, 1)) (hp : pc + 1 = pc') (hc : x.category = 1) (g : own_Go p.tables e below (T.setTop (mkF m pc' Ls S)) RR) : own_Go p.tables e below (T.setTop (mkF m pc Ls (x :: S))) RR := by
  subst hp
  exact own_st (fun t k => XS.pop X.here hx rfl (hb hby hd) rfl hc k) g
theorem own_goto (X : Stand p l e R s m args below meth c T locs cells slots) (hx : p.tables.exec = Jvm.exec) {B : ByteArray} (hby : c.code = B) {pc pc' : Nat} {Ls : Array Slot} {S : List Value}  {o : Int} (hd : decode B pc = .ok (.goto o, 3)) (hp : 0 ≤ (pc : Int) + o ∧ ((pc : Int) + o).toNat = pc')  (g : own_Go p.tables e below (T.setTop (mkF m pc' Ls S)) RR) : own_Go p.tables e below (T.setTop (mkF m pc Ls S)) RR :=
  own_st (fun t k => XS.goto X.here hx rfl rfl (hb hby hd) hp.1 hp.2 k) g
theorem own_ifYes (X : Stand p l e R s m args below meth c T locs cells slots) (hx : p.tables.exec = Jvm.exec) {B : ByteArray} (hby : c.code = B) {pc pc' : Nat} {Ls : Array Slot} {S : List Value} {cd : ClassFile.Cond} {x : Int32} {o : Int} (hd : decode B pc = .ok (.ifCond cd o, 3)) (hp : 0 ≤ (pc : Int) + o ∧ ((pc : Int) + o).toNat = pc') (hc : if_icmp.holds cd x 0 = true) (g : own_Go p.tables e below (T.setTop (mkF m pc' Ls S)) RR) : own_Go p.tables e below (T.setTop (mkF m pc Ls (.int x :: S))) RR :=
  own_st (fun t k => XS.ifYes X.here hx rfl rfl (hb hby hd) rfl ((if0 _ _).trans hc) hp.1 hp.2 k) g
theorem own_icmpYes (X : Stand p l e R s m args below meth c T locs cells slots) (hx : p.tables.exec = Jvm.exec) {B : ByteArray} (hby : c.code = B) {pc pc' : Nat} {Ls : Array Slot} {S : List Value} {cd : ClassFile.Cond} {x y : Int32} {o : Int} (hd : decode B pc = .ok (.if_icmp cd o, 3)) (hp : 0 ≤ (pc : Int) + o ∧ ((pc : Int) + o).toNat = pc') (hc : if_icmp.holds cd x y = true) (g : own_Go p.tables e below (T.setTop (mkF m pc' Ls S)) RR) : own_Go p.tables e below (T.setTop (mkF m pc Ls (.int y :: .int x :: S))) RR :=
  own_st (fun t k => XS.icmpYes X.here hx rfl rfl (hb hby hd) rfl hc hp.1 hp.2 k) g
theorem own_ifnullYes (X : Stand p l e R s m args below meth c T locs cells slots) (hx : p.tables.exec = Jvm.exec) {B : ByteArray} (hby : c.code = B) {pc pc' : Nat} {Ls : Array Slot} {S : List Value}  {o : Int} (hd : decode B pc = .ok (.ifnull o, 3)) (hp : 0 ≤ (pc : Int) + o ∧ ((pc : Int) + o).toNat = pc')  (g : own_Go p.tables e below (T.setTop (mkF m pc' Ls S)) RR) : own_Go p.tables e below (T.setTop (mkF m pc Ls (.null :: S))) RR :=
  own_st (fun t k => XS.ifnullYes X.here hx rfl rfl (hb hby hd) rfl hp.1 hp.2 k) g
theorem own_ifnonnullYes (X : Stand p l e R s m args below meth c T locs cells slots) (hx : p.tables.exec = Jvm.exec) {B : ByteArray} (hby : c.code = B) {pc pc' : Nat} {Ls : Array Slot} {S : List Value} {b : Addr} {o : Int} (hd : decode B pc = .ok (.ifnonnull o, 3)) (hp : 0 ≤ (pc : Int) + o ∧ ((pc : Int) + o).toNat = pc')  (g : own_Go p.tables e below (T.setTop (mkF m pc' Ls S)) RR) : own_Go p.tables e below (T.setTop (mkF m pc Ls (.ref b :: S))) RR :=
  own_st (fun t k => XS.ifnonnullYes X.here hx rfl rfl (hb hby hd) rfl hp.1 hp.2 k) g
theorem own_ifNo (X : Stand p l e R s m args below meth c T locs cells slots) (hx : p.tables.exec = Jvm.exec) {B : ByteArray} (hby : c.code = B) {pc pc' : Nat} {Ls : Array Slot} {S : List Value} {cd : ClassFile.Cond} {o : Int} {x : Int32} (hd : decode B pc = .ok (.ifCond cd o, 3)) (hp : pc + 3 = pc') (hc : if_icmp.holds cd x 0 = false) (g : own_Go p.tables e below (T.setTop (mkF m pc' Ls S)) RR) : own_Go p.tables e below (T.setTop (mkF m pc Ls (.int x :: S))) RR := by
  subst hp
  exact own_st (fun t k => XS.ifNo X.here hx rfl (hb hby hd) rfl ((if0 _ _).trans hc) k) g
theorem own_icmpNo (X : Stand p l e R s m args below meth c T locs cells slots) (hx : p.tables.exec = Jvm.exec) {B : ByteArray} (hby : c.code = B) {pc pc' : Nat} {Ls : Array Slot} {S : List Value} {cd : ClassFile.Cond} {o : Int} {x y : Int32} (hd : decode B pc = .ok (.if_icmp cd o, 3)) (hp : pc + 3 = pc') (hc : if_icmp.holds cd x y = false) (g : own_Go p.tables e below (T.setTop (mkF m pc' Ls S)) RR) : own_Go p.tables e below (T.setTop (mkF m pc Ls (.int y :: .int x :: S))) RR := by
  subst hp
  exact own_st (fun t k => XS.icmpNo X.here hx rfl (hb hby hd) rfl hc k) g
theorem own_ifnullNo (X : Stand p l e R s m args below meth c T locs cells slots) (hx : p.tables.exec = Jvm.exec) {B : ByteArray} (hby : c.code = B) {pc pc' : Nat} {Ls : Array Slot} {S : List Value} {o : Int} {b : Addr} (hd : decode B pc = .ok (.ifnull o, 3)) (hp : pc + 3 = pc')  (g : own_Go p.tables e below (T.setTop (mkF m pc' Ls S)) RR) : own_Go p.tables e below (T.setTop (mkF m pc Ls (.ref b :: S))) RR := by
  subst hp
  exact own_st (fun t k => XS.ifnullNo X.here hx rfl (hb hby hd) rfl k) g
theorem own_ifnonnullNo (X : Stand p l e R s m args below meth c T locs cells slots) (hx : p.tables.exec = Jvm.exec) {B : ByteArray} (hby : c.code = B) {pc pc' : Nat} {Ls : Array Slot} {S : List Value} {o : Int} (hd : decode B pc = .ok (.ifnonnull o, 3)) (hp : pc + 3 = pc')  (g : own_Go p.tables e below (T.setTop (mkF m pc' Ls S)) RR) : own_Go p.tables e below (T.setTop (mkF m pc Ls (.null :: S))) RR := by
  subst hp
  exact own_st (fun t k => XS.ifnonnullNo X.here hx rfl (hb hby hd) rfl k) g
theorem own_acmp (X : Stand p l e R s m args below meth c T locs cells slots) (hx : p.tables.exec = Jvm.exec) {B : ByteArray} (hby : c.code = B) {pc pc' : Nat} {Ls : Array Slot} {S : List Value} {cd : ACond} {o : Int} {x y : Value} {same : Bool} (hd : decode B pc = .ok (.if_acmp cd o, 3)) (h1 : x.isRef = true) (h2 : y.isRef = true) (hq : decide (x = y) = same) (hp : 0 ≤ (pc : Int) + o ∧ pc' = if acV cd same = true then ((pc : Int) + o).toNat else pc + 3) (g : own_Go p.tables e below (T.setTop (mkF m pc' Ls S)) RR) : own_Go p.tables e below (T.setTop (mkF m pc Ls (y :: x :: S))) RR :=
  own_st (fun t k => Jvm.RoadKit.acmp X hx rfl h1 h2 rfl (hb hby hd) rfl hq hp.1 hp.2 k) g
theorem own_tsw (X : Stand p l e R s m args below meth c T locs cells slots) (hx : p.tables.exec = Jvm.exec) {B : ByteArray} (hby : c.code = B) {pc pc' : Nat} {Ls : Array Slot} {S : List Value} {dflt low high : Int} {offs : Array Int} {len : Nat} {o : Int} {i : Int32} (hd : decode B pc = .ok (.tableswitch dflt low high offs, len)) (hin : ¬ (i.toInt < low ∨ i.toInt > high)) (hoff : offs[(i.toInt - low).toNat]? = some o) (hp : 0 ≤ (pc : Int) + o ∧ ((pc : Int) + o).toNat = pc') (g : own_Go p.tables e below (T.setTop (mkF m pc' Ls S)) RR) : own_Go p.tables e below (T.setTop (mkF m pc Ls (.int i :: S))) RR :=
  own_st (fun t k => XS.tswIn X.here hx rfl rfl (hb hby hd) rfl hin hoff hp.1 hp.2 k) g
theorem own_ldc (X : Stand p l e R s m args below meth c T locs cells slots) (hx : p.tables.exec = Jvm.exec) {B : ByteArray} (hby : c.code = B) {pc pc' : Nat} {Ls : Array Slot} {S : List Value} {own : String} {index : Nat} {v : Int32} (hd : decode B pc = .ok (.ldc index, 2)) (hp : pc + 2 = pc') (hZ : Z.Warmed39 s.vm) (hown : s.vm.findClass own = some m.cls) (w : (Cond.constant own index v).before a0 Z = true) (g : own_Go p.tables e below (T.setTop (mkF m pc' Ls (.int v :: S))) RR) : own_Go p.tables e below (T.setTop (mkF m pc Ls S)) RR := by
  subst hp
  exact own_st (X.ldcInt hx hown (mvT hZ w) (g := mkF m pc Ls S) rfl (hb hby hd)) g
theorem own_ldc2 (X : Stand p l e R s m args below meth c T locs cells slots) (hx : p.tables.exec = Jvm.exec) {B : ByteArray} (hby : c.code = B) {pc pc' : Nat} {Ls : Array Slot} {S : List Value} {own : String} {index : Nat} {v : Int64} (hd : decode B pc = .ok (.ldc2_w index, 3)) (hp : pc + 3 = pc') (hZ : Z.Warmed39 s.vm) (hown : s.vm.findClass own = some m.cls) (w : (Cond.constantLong own index v).before a0 Z = true) (g : own_Go p.tables e below (T.setTop (mkF m pc' Ls (.long v :: S))) RR) : own_Go p.tables e below (T.setTop (mkF m pc Ls S)) RR := by
  subst hp
  exact own_st (X.ldc2Long hx hown (mvT hZ w) (g := mkF m pc Ls S) rfl (hb hby hd)) g
theorem own_getS (X : Stand p l e R s m args below meth c T locs cells slots) (hx : p.tables.exec = Jvm.exec) {B : ByteArray} (hby : c.code = B) {pc pc' : Nat} {Ls : Array Slot} {S : List Value} {own R0 O n d host : String} {index : Nat} {v : Value} (hd : decode B pc = .ok (.getstatic index, 3)) (hp : pc + 3 = pc') (hZ : Z.Warmed39 s.vm) (hown : s.vm.findClass own = some m.cls) (w : (Cond.fieldLink own index R0 n d).before a0 Z = true ∨ (Cond.fieldLinkNest own index R0 n d host).before a0 Z = true) (via : Via Z R0 O n d) (eT : T.heap = h) (F : Sta Z h O n d v) (g : ∀ T' : State, Stand p l e R s m args below meth c T' locs cells slots → T'.heap = h → own_Go p.tables e below (T'.setTop (mkF m pc' Ls (v :: S))) RR) : own_Go p.tables e below (T.setTop (mkF m pc Ls S)) RR := by
  subst hp
  obtain ⟨T', X', e', st⟩ := getS2 X hx hZ hown w via eT F (g := mkF m pc Ls S) rfl (hb hby hd)
  exact own_st st (g T' X' e')
theorem own_getF (X : Stand p l e R s m args below meth c T locs cells slots) (hx : p.tables.exec = Jvm.exec) {B : ByteArray} (hby : c.code = B) {pc pc' : Nat} {Ls : Array Slot} {S : List Value} {own R0 O n d host : String} {index : Nat} {v : Value} {a : Addr} (hd : decode B pc = .ok (.getfield index, 3)) (hp : pc + 3 = pc') (hZ : Z.Warmed39 s.vm) (hown : s.vm.findClass own = some m.cls) (w : (Cond.fieldLink own index R0 n d).before a0 Z = true ∨ (Cond.fieldLinkNest own index R0 n d host).before a0 Z = true) (via : Via Z R0 O n d) (eT : T.heap = h) (F : Fld Z h a O n d v) (g : ∀ T' : State, Stand p l e R s m args below meth c T' locs cells slots → T'.heap = h → own_Go p.tables e below (T'.setTop (mkF m pc' Ls (v :: S))) RR) : own_Go p.tables e below (T.setTop (mkF m pc Ls (.ref a :: S))) RR := by
  subst hp
  obtain ⟨T', X', e', st⟩ := getF X hx hZ hown w via eT F (g := mkF m pc Ls (.ref a :: S)) rfl rfl (hb hby hd)
  exact own_st st (g T' X' e')
theorem own_new (X : Stand p l e R s m args below meth c T locs cells slots) (hx : p.tables.exec = Jvm.exec) {B : ByteArray} (hby : c.code = B) {pc pc' : Nat} {Ls : Array Slot} {S : List Value} {own C : String} {index n : Nat} (hd : decode B pc = .ok (.new index, 3)) (hp : pc + 3 = pc') (hZ : Z.Warmed39 s.vm) (hown : s.vm.findClass own = some m.cls) (w : (Cond.classLink own index C).before a0 Z = true) (wi : (Cond.instantiable C n).before a0 Z = true) (wz : (Cond.initialized C).before a0 Z = true) (eT : T.heap = h) (hc : cells + 1 ≤ R.cells) (hl : slots + n ≤ R.slots) (g : ∀ (T' : State) (h' : Heap) (a : Addr), Stand p l e R s m args below meth c T' locs (cells + 1) (slots + n) → T'.heap = h' → a = h.size → Ext h h' → Exa Z h' a C → (∀ {O nm d : String} {ty : FieldType}, Laid Z a0 C O nm d → parseFieldDescriptor d = some ty → Fld Z h' a O nm d (defaultValue ty)) → own_Go p.tables e below (T'.setTop (mkF m pc' Ls (.ref a :: S))) RR) : own_Go p.tables e below (T.setTop (mkF m pc Ls S)) RR := by
  subst hp
  obtain ⟨T', h', X', e', E', A', D', -, st⟩ := newO X hx hZ hown w wi wz eT (g := mkF m pc Ls S) rfl (hb hby hd) hc hl
  exact own_st st (g T' h' _ X' e' rfl E' A' D')
theorem own_put (X : Stand p l e R s m args below meth c T locs cells slots) (hx : p.tables.exec = Jvm.exec) {B : ByteArray} (hby : c.code = B) {pc pc' : Nat} {Ls : Array Slot} {S : List Value} {own R0 O n d host C : String} {index kk : Nat} {ty : FieldType} {a : Addr} {v old : Value} (hd : decode B pc = .ok (.putfield index, 3)) (hp : pc + 3 = pc') (hZ : Z.Warmed39 s.vm) (hown : s.vm.findClass own = some m.cls) (w : (Cond.fieldLink own index R0 n d).before a0 Z = true ∨ (Cond.fieldLinkNest own index R0 n d host).before a0 Z = true) (via : Via Z R0 O n d) (eT : T.heap = h) (F : Fld Z h a O n d old) (E : Exa Z h a C) (L : (Cond.lays C O n d).before a0 Z = true ∨ ((Cond.laysFinal C O n d).before a0 Z = true ∧ own = O ∧ meth.name = "<init>")) (wi : (Cond.instantiable C kk).before a0 Z = true) (hty : parseFieldDescriptor d = some ty) (hn : narrow ty v = v) (hf : fits ty v = true) (g : ∀ (T' : State) (h' : Heap), Stand p l e R s m args below meth c T' (locs ++ [⟨a, Jvm.RoadKit.slotOf Z O n d⟩]) cells slots → T'.heap = h' → Wr h h' a (Jvm.RoadKit.slotOf Z O n d) v → own_Go p.tables e below (T'.setTop (mkF m pc' Ls S)) RR) : own_Go p.tables e below (T.setTop (mkF m pc Ls (v :: .ref a :: S))) RR := by
  subst hp
  obtain ⟨T', h', X', e', W', st⟩ := putF X hx hZ hown w via eT F E L wi hty hn hf (g := mkF m pc Ls (v :: .ref a :: S)) rfl rfl (hb hby hd)
  exact own_st st (g T' h' X' e' W')
theorem own_putN (X : Stand p l e R s m args below meth c T locs cells slots) (hx : p.tables.exec = Jvm.exec) {B : ByteArray} (hby : c.code = B) {pc pc' : Nat} {Ls : Array Slot} {S : List Value} {own R0 O n d C : String} {index kk : Nat} {ty : FieldType} {a : Addr} {v v' old : Value} (hd : decode B pc = .ok (.putfield index, 3)) (hp : pc + 3 = pc') (hZ : Z.Warmed39 s.vm) (hown : s.vm.findClass own = some m.cls) (w : (Cond.fieldLink own index R0 n d).before a0 Z = true) (via : Via Z R0 O n d) (eT : T.heap = h) (F : Fld Z h a O n d old) (E : Exa Z h a C) (L : (Cond.lays C O n d).before a0 Z = true ∨ ((Cond.laysFinal C O n d).before a0 Z = true ∧ own = O ∧ meth.name = "<init>")) (wi : (Cond.instantiable C kk).before a0 Z = true) (hty : parseFieldDescriptor d = some ty) (hn : narrow ty v = v') (hf : fits ty v' = true) (g : ∀ (T' : State) (h' : Heap), Stand p l e R s m args below meth c T' (locs ++ [⟨a, Jvm.RoadKit.slotOf Z O n d⟩]) cells slots → T'.heap = h' → Wr h h' a (Jvm.RoadKit.slotOf Z O n d) v' → own_Go p.tables e below (T'.setTop (mkF m pc' Ls S)) RR) : own_Go p.tables e below (T.setTop (mkF m pc Ls (v :: .ref a :: S))) RR := by
  subst hp
  obtain ⟨T', h', X', e', W', st⟩ := putFN X hx hZ hown w via eT F E L wi hty hn hf (g := mkF m pc Ls (v :: .ref a :: S)) rfl rfl (hb hby hd)
  exact own_st st (g T' h' X' e' W')
theorem own_initO (X : Stand p l e R s m args below meth c T locs cells slots) (hx : p.tables.exec = Jvm.exec) {B : ByteArray} (hby : c.code = B) {pc pc' : Nat} {Ls : Array Slot} {S : List Value} {own : String} {index : Nat} {a : Addr} (hd : decode B pc = .ok (.invokespecial index, 3)) (hp : pc + 3 = pc') (hZ : Z.Warmed39 s.vm) (hown : s.vm.findClass own = some m.cls) (w1 : (Cond.methodLink own index Lib.objectInit).before a0 Z = true) (w2 : (Cond.instanceMethod Lib.objectInit).before a0 Z = true) (w3 : (Cond.code Lib.objectInit ⟨#[0xb1]⟩ 1 none).before a0 Z = true) (eT : T.heap = h) (hsz : Ls.size = c.maxLocals) (hf : 1 ≤ R.frames) {W : Nat} (hW : (S.map fun v => v.category).sum ≤ W) (hl : W + 12 ≤ R.locals) (g : ∀ (T' : State), Stand p l e R s m args below meth c T' locs cells slots → T'.heap = h → own_Go p.tables e below (T'.setTop (mkF m pc' Ls S)) RR) : own_Go p.tables e below (T.setTop (mkF m pc Ls (.ref a :: S))) RR := by
  subst hp
  obtain ⟨T', X', e', st⟩ := initO X hx hZ hown w1 w2 w3 eT (g := mkF m pc Ls (.ref a :: S)) rfl hsz rfl (hb hby hd) hf (W := W) (by show 2 * 0 + _ ≤ _; omega) hl
  exact own_st st (g T' X' e')
theorem own_castY (X : Stand p l e R s m args below meth c T locs cells slots) (hx : p.tables.exec = Jvm.exec) {B : ByteArray} (hby : c.code = B) {pc pc' : Nat} {Ls : Array Slot} {S : List Value} {own K : String} {index : Nat} {a : Addr} (hd : decode B pc = .ok (.checkcast index, 3)) (hp : pc + 3 = pc') (hZ : Z.Warmed39 s.vm) (hown : s.vm.findClass own = some m.cls) (w : (Cond.classLink own index K).before a0 Z = true) (eT : T.heap = h) (F : Ins Z h a K true) (g : ∀ (T' : State), Stand p l e R s m args below meth c T' locs cells slots → T'.heap = h → own_Go p.tables e below (T'.setTop (mkF m pc' Ls (.ref a :: S))) RR) : own_Go p.tables e below (T.setTop (mkF m pc Ls (.ref a :: S))) RR := by
  subst hp
  obtain ⟨T', X', e', st⟩ := castY X hx hZ hown w eT F (g := mkF m pc Ls (.ref a :: S)) rfl rfl (hb hby hd)
  exact own_st st (g T' X' e')
theorem own_instY (X : Stand p l e R s m args below meth c T locs cells slots) (hx : p.tables.exec = Jvm.exec) {B : ByteArray} (hby : c.code = B) {pc pc' : Nat} {Ls : Array Slot} {S : List Value} {own K : String} {index : Nat} {a : Addr} (hd : decode B pc = .ok (.instanceof index, 3)) (hp : pc + 3 = pc') (hZ : Z.Warmed39 s.vm) (hown : s.vm.findClass own = some m.cls) (w : (Cond.classLink own index K).before a0 Z = true) (eT : T.heap = h) (F : Ins Z h a K true) (g : ∀ (T' : State), Stand p l e R s m args below meth c T' locs cells slots → T'.heap = h → own_Go p.tables e below (T'.setTop (mkF m pc' Ls (.int 1 :: S))) RR) : own_Go p.tables e below (T.setTop (mkF m pc Ls (.ref a :: S))) RR := by
  subst hp
  obtain ⟨T', X', e', st⟩ := instY X hx hZ hown w eT F (g := mkF m pc Ls (.ref a :: S)) rfl rfl (hb hby hd)
  exact own_st st (g T' X' e')
theorem own_castN (X : Stand p l e R s m args below meth c T locs cells slots) (hx : p.tables.exec = Jvm.exec) {B : ByteArray} (hby : c.code = B) {pc pc' : Nat} {Ls : Array Slot} {S : List Value} {index : Nat} (hd : decode B pc = .ok (.checkcast index, 3)) (hp : pc + 3 = pc') (g : own_Go p.tables e below (T.setTop (mkF m pc' Ls (.null :: S))) RR) : own_Go p.tables e below (T.setTop (mkF m pc Ls (.null :: S))) RR := by
  subst hp
  exact own_st (X.checkcastNull hx (g := mkF m pc Ls (.null :: S)) rfl rfl (hb hby hd)) g
theorem own_instN (X : Stand p l e R s m args below meth c T locs cells slots) (hx : p.tables.exec = Jvm.exec) {B : ByteArray} (hby : c.code = B) {pc pc' : Nat} {Ls : Array Slot} {S : List Value} {index : Nat} (hd : decode B pc = .ok (.instanceof index, 3)) (hp : pc + 3 = pc') (g : own_Go p.tables e below (T.setTop (mkF m pc' Ls (.int 0 :: S))) RR) : own_Go p.tables e below (T.setTop (mkF m pc Ls (.null :: S))) RR := by
  subst hp
  exact own_st (X.instanceofNull hx (g := mkF m pc Ls (.null :: S)) rfl rfl (hb hby hd)) g
theorem own_callSp (X : Stand p l e R s m args below meth c T locs cells slots) (hx : p.tables.exec = Jvm.exec) (hZ : Z.Warmed39 s.vm) {y : MethodName} {bytes : ByteArray} {maxL : Nat} {rm : Room} {as' : Array Value}
    (hM : own_Met l y bytes maxL none [] rm as' Z h Q) (hin : y.name = "<init>") {own : String} {index : Nat} (hown : s.vm.findClass own = some m.cls) (w1 : (Cond.methodLink own index y).before a0 Z = true) (w4 : (Cond.instanceMethod y).before a0 Z = true) (w5 : (Cond.code y bytes maxL none).before a0 Z = true) (w6 : (Cond.initialized y.cls).before a0 Z = true)
    (hy : y.cls ≠ "java/lang/invoke/MethodHandle" ∧ y.cls ≠ "java/lang/invoke/VarHandle") {a : Addr} {W : Nat} (hf : rm.frames + 1 ≤ R.frames) (hl : W + (maxL + 11) + rm.locals ≤ R.locals) {pc : Nat} {Ls : Array Slot} (hsz : Ls.size = c.maxLocals) {argsL rest st : List Value} (ha : (Value.ref a :: argsL).toArray = as')
    (hlen : ∀ sig, parseMethodDescriptor y.desc = some sig → argsL.length = sig.parameters.length) (hst : st = argsL.reverse ++ .ref a :: rest) (hW : (rest.map fun v => v.category).sum ≤ W) (hd : decode c.code pc = .ok (.invokespecial index, 3)) (eT : T.heap = h) (hc : cells + rm.cells ≤ R.cells) (hs : slots + rm.slots ≤ R.slots)
    (k : ∀ (v : Option Value) (T' : State) (L : List Loc), Stand p l e R s m args below meth c T' (locs ++ L) (cells + rm.cells) (slots + rm.slots) → Q v T'.heap L → own_Go p.tables e below (T'.setTop (mkF m (pc + 3) Ls (v.toList ++ rest))) RR) :
    own_Go p.tables e below (T.setTop (mkF m pc Ls st)) RR := by
  subst ha
  obtain ⟨v, _, ⟨T', L', k', n'⟩, -, X', ⟨Lc, hQ, l', y', z'⟩, stp⟩ := X.specialBack hx (y := y) hin hown (mvT hZ w1) (mvT hZ w4) (mvT hZ w5) hy (backOf (W := W) hM hZ w5 w6 hf hl) (g := mkF m pc Ls st) rfl hsz (Steps.refl _) (a := a) (argsL := argsL) (rest := rest) hlen hst (by show 2 * 0 + _ ≤ _; omega) hd (fun _ _ => ⟨rfl, eT, hc, hs⟩)
  dsimp only [Pt.U, Pt.locs, Pt.cells, Pt.slots] at X' l' y' z' stp hQ
  subst l' y' z'
  exact own_st (fun t k => stp.trans k) (k v T' Lc X' hQ)
/-! arrays: own_Ar says all that an array holds, by a list -/
def own_Ar (Z : State) (h : Heap) (a : Addr) (ty : FieldType) (vs : List Value) : Prop := ∃ c : Cell, Arr Z h a c ty ∧ c.slots.toList = vs
theorem own_Ar.lt {a : Addr} {ty : FieldType} {vs : List Value} (F : own_Ar Z h a ty vs) : a < h.size := by obtain ⟨c, A, -⟩ := F; exact A.lt
theorem own_Ar.ext {h' : Heap} {a : Addr} {ty : FieldType} {vs : List Value} (F : own_Ar Z h a ty vs) (E : Ext h h') : own_Ar Z h' a ty vs := by obtain ⟨c, A, q⟩ := F; exact ⟨c, A.ext E, q⟩
theorem own_Ar.other {h' : Heap} {a b : Addr} {sl : Nat} {v : Value} {ty : FieldType} {vs : List Value} (F : own_Ar Z h b ty vs) (W : Wr h h' a sl v) (q : b ≠ a) : own_Ar Z h' b ty vs := by obtain ⟨c, A, r⟩ := F; exact ⟨c, A.other W q, r⟩
theorem own_Ar.keep {h' : Heap} {a : Addr} {ws : List Addr} {ty : FieldType} {vs : List Value} (F : own_Ar Z h a ty vs) (K : Keep h h' ws) (q : a ∉ ws) : own_Ar Z h' a ty vs := by obtain ⟨c, A, r⟩ := F; exact ⟨c, ⟨K.2.1 a c A.1 q, A.2⟩, r⟩
theorem own_Ar.same {h' : Heap} {a : Addr} {sl : Nat} {v : Value} {ty : FieldType} {vs : List Value} (F : own_Ar Z h a ty vs) (W : Wr h h' a sl v) : own_Ar Z h' a ty (vs.set sl v) := by
  obtain ⟨c, A, r⟩ := F
  refine ⟨_, A.same W, ?_⟩
  rw [← r]
  show (c.slots.setIfInBounds sl v).toList = _
  exact Array.toList_setIfInBounds
theorem own_Ar.at {a : Addr} {ty : FieldType} {vs : List Value} (F : own_Ar Z h a ty vs) {j : Int32} (hj : ¬ j < 0) {v : Value} (hv : vs[j.toNatClampNeg]? = some v) : ∃ c : Cell, Arr Z h a c ty ∧ c.slots.toList = vs ∧ ¬ (j < 0 ∨ c.slots.size ≤ j.toNatClampNeg) ∧ c.slots[j.toNatClampNeg]? = some v := by
  obtain ⟨c, A, r⟩ := F
  subst r
  have q : c.slots[j.toNatClampNeg]? = some v := by rw [← Array.getElem?_toList]; exact hv
  refine ⟨c, A, rfl, ?_, q⟩
  rintro (u | u)
  · exact hj u
  · rw [Array.getElem?_eq_none u] at q; cases q
theorem own_newA (X : Stand p l e R s m args below meth c T locs cells slots) (hx : p.tables.exec = Jvm.exec) {B : ByteArray} (hby : c.code = B) {pc pc' : Nat} {Ls : Array Slot} {S : List Value} {aty : ArrayType} {n : Int32} {vs : List Value} (hd : decode B pc = .ok (.newarray aty, 2)) (hp : pc + 2 = pc') (hZ : Z.Warmed39 s.vm) (w : (Cond.arrayClass (newarray.typeOf aty)).before a0 Z = true) (eT : T.heap = h) (hn : ¬ n < 0) {cap : Nat} (hcap : n.toNatClampNeg ≤ cap) (hbig : cap * 8 ≤ 536870912) (hc : cells + 1 ≤ R.cells) (hl : slots + cap ≤ R.slots) (hvs : List.replicate n.toNatClampNeg (defaultValue (newarray.typeOf aty)) = vs) (g : ∀ (T' : State) (h' : Heap) (a : Addr), Stand p l e R s m args below meth c T' locs (cells + 1) (slots + cap) → T'.heap = h' → a = h.size → Ext h h' → own_Ar Z h' a (newarray.typeOf aty) vs → own_Go p.tables e below (T'.setTop (mkF m pc' Ls (.ref a :: S))) RR) : own_Go p.tables e below (T.setTop (mkF m pc Ls (.int n :: S))) RR := by
  subst hp
  obtain ⟨T', h', cA, X', e', E', A', st⟩ := newP X hx hZ w eT (g := mkF m pc Ls (.int n :: S)) rfl (hb hby hd) rfl hn hcap hbig hc hl
  exact own_st st (g T' h' _ X' e' rfl E' ⟨_, A', by rw [← hvs]; exact Array.toList_replicate⟩)
theorem own_iaload (X : Stand p l e R s m args below meth c T locs cells slots) (hx : p.tables.exec = Jvm.exec) {B : ByteArray} (hby : c.code = B) {pc pc' : Nat} {Ls : Array Slot} {S : List Value} {a : Addr} {j : Int32} {v : Value} {vs : List Value} (hd : decode B pc = .ok (.iaload, 1)) (hp : pc + 1 = pc') (hZ : Z.Warmed39 s.vm) (eT : T.heap = h) (A : own_Ar Z h a .int vs) (hj : ¬ j < 0) (hv : vs[j.toNatClampNeg]? = some v) (g : own_Go p.tables e below (T.setTop (mkF m pc' Ls (v :: S))) RR) : own_Go p.tables e below (T.setTop (mkF m pc Ls (.int j :: .ref a :: S))) RR := by
  subst hp
  obtain ⟨cl, Ar, -, hin, hat⟩ := A.at hj hv
  exact own_st (fun t k => X.iaload hx (j := j) (v := v) (by rw [eT]; exact Ar.1) (State.isArrayOf_alike hZ.alike Ar.2.1) Ar.2.2 hin hat (g := mkF m pc Ls (.int j :: .ref a :: S)) rfl rfl (hb hby hd) t k) g
theorem own_laload (X : Stand p l e R s m args below meth c T locs cells slots) (hx : p.tables.exec = Jvm.exec) {B : ByteArray} (hby : c.code = B) {pc pc' : Nat} {Ls : Array Slot} {S : List Value} {a : Addr} {j : Int32} {v : Value} {vs : List Value} (hd : decode B pc = .ok (.laload, 1)) (hp : pc + 1 = pc') (hZ : Z.Warmed39 s.vm) (eT : T.heap = h) (A : own_Ar Z h a .long vs) (hj : ¬ j < 0) (hv : vs[j.toNatClampNeg]? = some v) (g : own_Go p.tables e below (T.setTop (mkF m pc' Ls (v :: S))) RR) : own_Go p.tables e below (T.setTop (mkF m pc Ls (.int j :: .ref a :: S))) RR := by
  subst hp
  obtain ⟨cl, Ar, -, hin, hat⟩ := A.at hj hv
  exact own_st (fun t k => X.laload hx (j := j) (v := v) (by rw [eT]; exact Ar.1) (State.isArrayOf_alike hZ.alike Ar.2.1) Ar.2.2 hin hat (g := mkF m pc Ls (.int j :: .ref a :: S)) rfl rfl (hb hby hd) t k) g
theorem own_caload (X : Stand p l e R s m args below meth c T locs cells slots) (hx : p.tables.exec = Jvm.exec) {B : ByteArray} (hby : c.code = B) {pc pc' : Nat} {Ls : Array Slot} {S : List Value} {a : Addr} {j : Int32} {v : Value} {vs : List Value} (hd : decode B pc = .ok (.caload, 1)) (hp : pc + 1 = pc') (hZ : Z.Warmed39 s.vm) (eT : T.heap = h) (A : own_Ar Z h a .char vs) (hj : ¬ j < 0) (hv : vs[j.toNatClampNeg]? = some v) (g : own_Go p.tables e below (T.setTop (mkF m pc' Ls (v :: S))) RR) : own_Go p.tables e below (T.setTop (mkF m pc Ls (.int j :: .ref a :: S))) RR := by
  subst hp
  obtain ⟨cl, Ar, -, hin, hat⟩ := A.at hj hv
  exact own_st (fun t k => X.caload hx (j := j) (v := v) (by rw [eT]; exact Ar.1) (State.isArrayOf_alike hZ.alike Ar.2.1) Ar.2.2 hin hat (g := mkF m pc Ls (.int j :: .ref a :: S)) rfl rfl (hb hby hd) t k) g
theorem own_saload (X : Stand p l e R s m args below meth c T locs cells slots) (hx : p.tables.exec = Jvm.exec) {B : ByteArray} (hby : c.code = B) {pc pc' : Nat} {Ls : Array Slot} {S : List Value} {a : Addr} {j : Int32} {v : Value} {vs : List Value} (hd : decode B pc = .ok (.saload, 1)) (hp : pc + 1 = pc') (hZ : Z.Warmed39 s.vm) (eT : T.heap = h) (A : own_Ar Z h a .short vs) (hj : ¬ j < 0) (hv : vs[j.toNatClampNeg]? = some v) (g : own_Go p.tables e below (T.setTop (mkF m pc' Ls (v :: S))) RR) : own_Go p.tables e below (T.setTop (mkF m pc Ls (.int j :: .ref a :: S))) RR := by
  subst hp
  obtain ⟨cl, Ar, -, hin, hat⟩ := A.at hj hv
  exact own_st (fun t k => X.saload hx (j := j) (v := v) (by rw [eT]; exact Ar.1) (State.isArrayOf_alike hZ.alike Ar.2.1) Ar.2.2 hin hat (g := mkF m pc Ls (.int j :: .ref a :: S)) rfl rfl (hb hby hd) t k) g
theorem own_baload (X : Stand p l e R s m args below meth c T locs cells slots) (hx : p.tables.exec = Jvm.exec) {B : ByteArray} (hby : c.code = B) {pc pc' : Nat} {Ls : Array Slot} {S : List Value} {a : Addr} {j : Int32} {v : Value} {vs : List Value} (hd : decode B pc = .ok (.baload, 1)) (hp : pc + 1 = pc') (hZ : Z.Warmed39 s.vm) (eT : T.heap = h) (A : own_Ar Z h a .byte vs) (hj : ¬ j < 0) (hv : vs[j.toNatClampNeg]? = some v) (g : own_Go p.tables e below (T.setTop (mkF m pc' Ls (v :: S))) RR) : own_Go p.tables e below (T.setTop (mkF m pc Ls (.int j :: .ref a :: S))) RR := by
  subst hp
  obtain ⟨cl, Ar, -, hin, hat⟩ := A.at hj hv
  exact own_st (fun t k => X.baloadBytes hx (j := j) (v := v) (by rw [eT]; exact Ar.1) (State.isArrayOf_alike hZ.alike Ar.2.1) Ar.2.2 hin hat (g := mkF m pc Ls (.int j :: .ref a :: S)) rfl rfl (hb hby hd) t k) g
theorem own_aaload (X : Stand p l e R s m args below meth c T locs cells slots) (hx : p.tables.exec = Jvm.exec) {B : ByteArray} (hby : c.code = B) {pc pc' : Nat} {Ls : Array Slot} {S : List Value} {a : Addr} {j : Int32} {v : Value} {vs : List Value} {ty : FieldType} (hty : ty.isReference = true) (hd : decode B pc = .ok (.aaload, 1)) (hp : pc + 1 = pc') (hZ : Z.Warmed39 s.vm) (eT : T.heap = h) (A : own_Ar Z h a ty vs) (hj : ¬ j < 0) (hv : vs[j.toNatClampNeg]? = some v) (g : own_Go p.tables e below (T.setTop (mkF m pc' Ls (v :: S))) RR) : own_Go p.tables e below (T.setTop (mkF m pc Ls (.int j :: .ref a :: S))) RR := by
  subst hp
  obtain ⟨cl, Ar, -, hin, hat⟩ := A.at hj hv
  exact own_st (fun t k => X.aaload hx (j := j) (v := v) (by rw [eT]; exact Ar.1) (State.isArrayOf_alike hZ.alike Ar.2.1) hty Ar.2.2 hin hat (g := mkF m pc Ls (.int j :: .ref a :: S)) rfl rfl (hb hby hd) t k) g
theorem own_iastore (X : Stand p l e R s m args below meth c T locs cells slots) (hx : p.tables.exec = Jvm.exec) {B : ByteArray} (hby : c.code = B) {pc pc' : Nat} {Ls : Array Slot} {S : List Value} {a : Addr} {j : Int32} {x : Int32} {v : Value} {vs : List Value} (hd : decode B pc = .ok (.iastore, 1)) (hp : pc + 1 = pc') (hZ : Z.Warmed39 s.vm) (eT : T.heap = h) (A : own_Ar Z h a .int vs) (hj : ¬ j < 0) (hv : vs[j.toNatClampNeg]? = some v) (g : ∀ (T' : State) (h' : Heap), Stand p l e R s m args below meth c T' (locs ++ [⟨a, j.toNatClampNeg⟩]) cells slots → T'.heap = h' → Wr h h' a j.toNatClampNeg (.int x) → own_Ar Z h' a .int (vs.set j.toNatClampNeg (.int x)) → own_Go p.tables e below (T'.setTop (mkF m pc' Ls S)) RR) : own_Go p.tables e below (T.setTop (mkF m pc Ls ((.int x) :: .int j :: .ref a :: S))) RR := by
  subst hp
  obtain ⟨cl, Ar, r, hin, hat⟩ := A.at hj hv
  obtain ⟨T', h', X', e', W', st⟩ := stI X hx hZ eT Ar (j := j) (x := x) hin (g := mkF m pc Ls ((.int x) :: .int j :: .ref a :: S)) rfl rfl (hb hby hd)
  exact own_st st (g T' h' X' e' W' (A.same W'))
theorem own_lastore (X : Stand p l e R s m args below meth c T locs cells slots) (hx : p.tables.exec = Jvm.exec) {B : ByteArray} (hby : c.code = B) {pc pc' : Nat} {Ls : Array Slot} {S : List Value} {a : Addr} {j : Int32} {x : Int64} {v : Value} {vs : List Value} (hd : decode B pc = .ok (.lastore, 1)) (hp : pc + 1 = pc') (hZ : Z.Warmed39 s.vm) (eT : T.heap = h) (A : own_Ar Z h a .long vs) (hj : ¬ j < 0) (hv : vs[j.toNatClampNeg]? = some v) (g : ∀ (T' : State) (h' : Heap), Stand p l e R s m args below meth c T' (locs ++ [⟨a, j.toNatClampNeg⟩]) cells slots → T'.heap = h' → Wr h h' a j.toNatClampNeg (.long x) → own_Ar Z h' a .long (vs.set j.toNatClampNeg (.long x)) → own_Go p.tables e below (T'.setTop (mkF m pc' Ls S)) RR) : own_Go p.tables e below (T.setTop (mkF m pc Ls ((.long x) :: .int j :: .ref a :: S))) RR := by
  subst hp
  obtain ⟨cl, Ar, r, hin, hat⟩ := A.at hj hv
  obtain ⟨T', h', X', e', W', st⟩ := stJ X hx hZ eT Ar (j := j) (x := x) hin (g := mkF m pc Ls ((.long x) :: .int j :: .ref a :: S)) rfl rfl (hb hby hd)
  exact own_st st (g T' h' X' e' W' (A.same W'))
theorem own_castore (X : Stand p l e R s m args below meth c T locs cells slots) (hx : p.tables.exec = Jvm.exec) {B : ByteArray} (hby : c.code = B) {pc pc' : Nat} {Ls : Array Slot} {S : List Value} {a : Addr} {j : Int32} {x : Int32} {v : Value} {vs : List Value} (hd : decode B pc = .ok (.castore, 1)) (hp : pc + 1 = pc') (hZ : Z.Warmed39 s.vm) (eT : T.heap = h) (A : own_Ar Z h a .char vs) (hj : ¬ j < 0) (hv : vs[j.toNatClampNeg]? = some v) (g : ∀ (T' : State) (h' : Heap), Stand p l e R s m args below meth c T' (locs ++ [⟨a, j.toNatClampNeg⟩]) cells slots → T'.heap = h' → Wr h h' a j.toNatClampNeg (.int (nar .char x)) → own_Ar Z h' a .char (vs.set j.toNatClampNeg (.int (nar .char x))) → own_Go p.tables e below (T'.setTop (mkF m pc' Ls S)) RR) : own_Go p.tables e below (T.setTop (mkF m pc Ls ((.int x) :: .int j :: .ref a :: S))) RR := by
  subst hp
  obtain ⟨cl, Ar, r, hin, hat⟩ := A.at hj hv
  obtain ⟨T', h', X', e', W', st⟩ := stC X hx hZ eT Ar (j := j) (x := x) hin (g := mkF m pc Ls ((.int x) :: .int j :: .ref a :: S)) rfl rfl (hb hby hd)
  exact own_st st (g T' h' X' e' W' (A.same W'))
theorem own_bastore (X : Stand p l e R s m args below meth c T locs cells slots) (hx : p.tables.exec = Jvm.exec) {B : ByteArray} (hby : c.code = B) {pc pc' : Nat} {Ls : Array Slot} {S : List Value} {a : Addr} {j : Int32} {x : Int32} {v : Value} {vs : List Value} (hd : decode B pc = .ok (.bastore, 1)) (hp : pc + 1 = pc') (hZ : Z.Warmed39 s.vm) (eT : T.heap = h) (A : own_Ar Z h a .byte vs) (hj : ¬ j < 0) (hv : vs[j.toNatClampNeg]? = some v) (g : ∀ (T' : State) (h' : Heap), Stand p l e R s m args below meth c T' (locs ++ [⟨a, j.toNatClampNeg⟩]) cells slots → T'.heap = h' → Wr h h' a j.toNatClampNeg (.int x.toInt8.toInt32) → own_Ar Z h' a .byte (vs.set j.toNatClampNeg (.int x.toInt8.toInt32)) → own_Go p.tables e below (T'.setTop (mkF m pc' Ls S)) RR) : own_Go p.tables e below (T.setTop (mkF m pc Ls ((.int x) :: .int j :: .ref a :: S))) RR := by
  subst hp
  obtain ⟨cl, Ar, r, hin, hat⟩ := A.at hj hv
  obtain ⟨T', h', X', e', W', st⟩ := stB X hx hZ eT Ar (j := j) (x := x) hin (g := mkF m pc Ls ((.int x) :: .int j :: .ref a :: S)) rfl rfl (hb hby hd)
  exact own_st st (g T' h' X' e' W' (A.same W'))
theorem own_len (X : Stand p l e R s m args below meth c T locs cells slots) (hx : p.tables.exec = Jvm.exec) {B : ByteArray} (hby : c.code = B) {pc pc' : Nat} {Ls : Array Slot} {S : List Value} {a : Addr} {ty : FieldType} {n : Int32} {vs : List Value} (hd : decode B pc = .ok (.arraylength, 1)) (hp : pc + 1 = pc') (hZ : Z.Warmed39 s.vm) (eT : T.heap = h) (A : own_Ar Z h a ty vs) (hn : vs.length.toInt32 = n) (g : own_Go p.tables e below (T.setTop (mkF m pc' Ls (.int n :: S))) RR) : own_Go p.tables e below (T.setTop (mkF m pc Ls (.ref a :: S))) RR := by
  subst hp hn
  obtain ⟨cl, Ar, r⟩ := A
  subst r
  exact own_st (fun t k => X.arraylength hx (by rw [eT]; exact Ar.1) (State.isArrayOf_alike hZ.alike Ar.2.1) (g := mkF m pc Ls (.ref a :: S)) rfl rfl (hb hby hd) t (by rw [← Array.length_toList]; exact k)) g
theorem own_clone (X : Stand p l e R s m args below meth c T locs cells slots) (hx : p.tables.exec = Jvm.exec) {B : ByteArray} (hby : c.code = B) {pc pc' : Nat} {Ls : Array Slot} {S : List Value} {own ad : String} {index : Nat} {a : Addr} {cl : Cell} {ty : FieldType} (hd : decode B pc = .ok (.invokevirtual index, 3)) (hp : pc + 3 = pc') (hZ : Z.Warmed39 s.vm) (hown : s.vm.findClass own = some m.cls) (w1 : (Cond.methodLink own index ⟨ad, "clone", "()Ljava/lang/Object;"⟩).before a0 Z = true) (w2 : (Cond.sameMethod ad "java/lang/Object" "clone" "()Ljava/lang/Object;").before a0 Z = true) (w3 : (Cond.native ⟨"java/lang/Object", "clone", "()Ljava/lang/Object;"⟩).before a0 Z = true) (w4 : (Cond.instanceMethod ⟨"java/lang/Object", "clone", "()Ljava/lang/Object;"⟩).before a0 Z = true) (w5 : (Cond.selects ad ⟨ad, "clone", "()Ljava/lang/Object;"⟩ ⟨"java/lang/Object", "clone", "()Ljava/lang/Object;"⟩).before a0 Z = true) (w6 : (Cond.castable ad "java/lang/Cloneable").before a0 Z = true) (eT : T.heap = h) (A : Arr Z h a cl ty) (E : Exa Z h a ad) (F : FitC Z cl) (hsz : Ls.size = c.maxLocals) (hf : 1 ≤ R.frames) {W cap : Nat} (hW : (S.map fun v => v.category).sum ≤ W) (hl : W + 14 ≤ R.locals) (hcap : cl.slots.size ≤ cap) (hc : cells + 1 ≤ R.cells) (hsl : slots + cap ≤ R.slots) (g : ∀ (T' : State) (h' : Heap) (b : Addr), Stand p l e R s m args below meth c T' locs (cells + 1) (slots + cap) → T'.heap = h' → b = h.size → Ext h h' → Arr Z h' b (cloneOf cl) ty → Exa Z h' b ad → own_Go p.tables e below (T'.setTop (mkF m pc' Ls (.ref b :: S))) RR) : own_Go p.tables e below (T.setTop (mkF m pc Ls (.ref a :: S))) RR := by
  subst hp
  obtain ⟨T', h', X', e', E', A', F', st⟩ := cloneA X hx hZ hown w1 w2 w3 w4 w5 w6 eT A E F (g := mkF m pc Ls (.ref a :: S)) rfl hsz rfl (hb hby hd) hf (W := W) (by show 2 * 0 + _ ≤ _; omega) hl hcap hc hsl
  exact own_st st (g T' h' _ X' e' rfl E' A' F')
theorem own_Ar.arv {a : Addr} {ty : FieldType} {vs : List Value} {dv : Value} (F : own_Ar Z h a ty vs) (hl : vs.length < 2 ^ 31) (hf : ∀ v ∈ vs, fits ty v = true) : ∃ k, vs.length.toInt32.toNatClampNeg = vs.length ∧ Arv Z h a k ty vs.length.toInt32 vs dv := by
  obtain ⟨c, A, r⟩ := F
  subst r
  have e : c.slots.toList.length = c.slots.size := Array.length_toList
  have i : c.slots.size.toInt32.toInt = (c.slots.size : Int) := len_toInt (by rw [← e]; exact hl)
  have z : c.slots.size.toInt32.toNatClampNeg = c.slots.size := by simp only [Int32.toNatClampNeg, i]; rfl
  have g : ∀ k, k < c.slots.size → c.slots[k]? = some (c.slots.toList.getD k dv) := fun k hk => by
    rw [List.getD_eq_getElem?_getD, Array.getElem?_toList, Array.getElem?_eq_getElem hk]; rfl
  rw [e]
  refine ⟨c.cls, z, c, A, rfl, z.symm, ?_, g, fun k hk => ?_⟩
  · intro q
    have q' := Int32.lt_iff_toInt_lt.mp q
    rw [i] at q'
    have z0 : (0 : Int32).toInt = 0 := rfl
    omega
  · have q := g k hk
    refine hf _ ?_
    rw [← Array.getElem?_toList] at q
    exact List.mem_of_getElem? q
theorem own_Ar.of_arv {a : Addr} {k : ClassId} {z : Int32} {ty : FieldType} {vs : List Value} {dv : Value} (F : Arv Z h a k ty z vs dv) (hl : vs.length = z.toNatClampNeg) : own_Ar Z h a ty vs := by
  obtain ⟨c, A, -, S, -, H, -⟩ := F
  refine ⟨c, A, ?_⟩
  apply List.ext_getElem?
  intro i
  rw [Array.getElem?_toList]
  by_cases q : i < c.slots.size
  · rw [H i q, List.getD_eq_getElem?_getD, List.getElem?_eq_getElem (by omega)]; rfl
  · rw [Array.getElem?_eq_none (by omega), List.getElem?_eq_none (by omega)]
theorem own_range {vs : List Value} {dv : Value} : ∀ (n sp : Nat), sp + n ≤ vs.length → ((List.range n).map fun i => vs.getD (sp + i) dv) = (vs.drop sp).take n := by
  intro n sp hle
  apply List.ext_getElem?
  intro i
  by_cases q : i < n
  · rw [List.getElem?_map, List.getElem?_range q, List.getElem?_take_of_lt q, List.getElem?_drop, List.getElem?_eq_getElem (by omega)]
    simp only [Option.map_some]
    rw [List.getD_eq_getElem?_getD, List.getElem?_eq_getElem (by omega)]; rfl
  · rw [List.getElem?_eq_none (by simp; omega), List.getElem?_eq_none (by simp; omega)]
theorem own_cp (X : Stand p l e R s m args below meth c T locs cells slots) (hx : p.tables.exec = Jvm.exec) {B : ByteArray} (hby : c.code = B) {pc pc' : Nat} {Ls : Array Slot} {S : List Value} {own : String} {index : Nat} {a b : Addr} {sp dp nn : Int32} {vs vd us : List Value} (hd : decode B pc = .ok (.invokestatic index, 3)) (hp : pc + 3 = pc') (hZ : Z.Warmed39 s.vm) (hown : s.vm.findClass own = some m.cls) (w1 : (Cond.methodLink own index Jvm.Stand.acN).before a0 Z = true) (w2 : (Cond.native Jvm.Stand.acN).before a0 Z = true) (w3 : (Cond.static Jvm.Stand.acN).before a0 Z = true) (w4 : (Cond.initialized "java/lang/System").before a0 Z = true) (eT : T.heap = h) {ty : FieldType} (hty : refKind ty = false) (A : own_Ar Z h a ty vs) (D : own_Ar Z h b ty vd) (hA : ∀ v ∈ vs, fits ty v = true) (hD : ∀ v ∈ vd, fits ty v = true) (h1 : ¬ sp < 0) (h2 : ¬ dp < 0) (h3 : ¬ nn < 0) (h4 : sp.toNatClampNeg + nn.toNatClampNeg ≤ vs.length) (h5 : dp.toNatClampNeg + nn.toNatClampNeg ≤ vd.length) (lA : vs.length < 2 ^ 31) (lD : vd.length < 2 ^ 31) (hus : vd.take dp.toNatClampNeg ++ (vs.drop sp.toNatClampNeg).take nn.toNatClampNeg ++ vd.drop (dp.toNatClampNeg + nn.toNatClampNeg) = us) {n0 : Nat} (N : Fr n0 locs) (ge : n0 ≤ b) (hsz : Ls.size = c.maxLocals) (hf : 1 ≤ R.frames) {W : Nat} (hW : (S.map fun v => v.category).sum ≤ W) (hlo : W + (nativeFrameWords "java/lang/System" "arraycopy" 5 + 11) ≤ R.locals) (g : ∀ (T' : State) (h' : Heap) (L : List Loc), Stand p l e R s m args below meth c T' L cells slots → T'.heap = h' → Fr n0 L → Keep h h' [b] → own_Ar Z h' b ty us → own_Go p.tables e below (T'.setTop (mkF m pc' Ls S)) RR) : own_Go p.tables e below (T.setTop (mkF m pc Ls (.int nn :: .int dp :: .ref b :: .int sp :: .ref a :: S))) RR := by
  subst hp
  obtain ⟨k, q1, A'⟩ := A.arv (dv := .null) lA hA
  obtain ⟨k', q2, D'⟩ := D.arv (dv := .null) lD hD
  obtain ⟨T', h', L, X', e', N', K', B', st⟩ := cpA X hx hZ hown w1 w2 w3 w4 eT A' D' (Or.inl ⟨rfl, hty⟩) h1 h2 h3 (by rw [q1]; exact h4) (by rw [q2]; exact h5) rfl h5 N ge (g := mkF m pc Ls (.int nn :: .int dp :: .ref b :: .int sp :: .ref a :: S)) rfl hsz rfl (hb hby hd) hf (W := W) (by show 2 * 0 + _ ≤ _; omega) hlo
  rw [own_range _ _ h4, hus] at B'
  refine own_st st (g T' h' L X' e' N' K' (own_Ar.of_arv B' ?_))
  rw [q2, ← hus]
  simp only [List.length_append, List.length_take, List.length_drop]
  omega
theorem own_callSpB (X : Stand p l e R s m args below meth c T locs cells slots) (hx : p.tables.exec = Jvm.exec) (hZ : Z.Warmed39 s.vm) {y : MethodName} {rc rs : Nat} {W : Nat} {as' : Array Value} (hK : Back l R p e below s args y 3 W (fun A a => a = as' ∧ A.U.heap = h ∧ A.cells + rc ≤ R.cells ∧ A.slots + rs ≤ R.slots) (fun A _ v B => ∃ L, Q v B.U.heap L ∧ B.locs = A.locs ++ L ∧ B.cells = A.cells + rc ∧ B.slots = A.slots + rs)) (hin : y.name = "<init>") {own : String} {index : Nat} (hown : s.vm.findClass own = some m.cls) (w1 : (Cond.methodLink own index y).before a0 Z = true) (w4 : (Cond.instanceMethod y).before a0 Z = true) {bytes : ByteArray} {maxL : Nat} (w5 : (Cond.code y bytes maxL none).before a0 Z = true) (hy : y.cls ≠ "java/lang/invoke/MethodHandle" ∧ y.cls ≠ "java/lang/invoke/VarHandle") {a : Addr} {pc : Nat} {Ls : Array Slot} (hsz : Ls.size = c.maxLocals) {argsL rest st : List Value} (ha : (Value.ref a :: argsL).toArray = as') (hlen : ∀ sig, parseMethodDescriptor y.desc = some sig → argsL.length = sig.parameters.length) (hst : st = argsL.reverse ++ .ref a :: rest) (hW : (rest.map fun v => v.category).sum ≤ W) (hd : decode c.code pc = .ok (.invokespecial index, 3)) (eT : T.heap = h) (hc : cells + rc ≤ R.cells) (hs : slots + rs ≤ R.slots) (k : ∀ (v : Option Value) (T' : State) (L : List Loc), Stand p l e R s m args below meth c T' (locs ++ L) (cells + rc) (slots + rs) → Q v T'.heap L → own_Go p.tables e below (T'.setTop (mkF m (pc + 3) Ls (v.toList ++ rest))) RR) :
    own_Go p.tables e below (T.setTop (mkF m pc Ls st)) RR := by
  subst ha
  obtain ⟨v, _, ⟨T', L', k', n'⟩, -, X', ⟨Lc, hQ, l', y', z'⟩, stp⟩ := X.specialBack hx (y := y) hin hown (mvT hZ w1) (mvT hZ w4) (mvT hZ w5) hy hK (g := mkF m pc Ls st) rfl hsz (Steps.refl _) (a := a) (argsL := argsL) (rest := rest) hlen hst (by show 2 * 0 + _ ≤ _; omega) hd (fun _ _ => ⟨rfl, eT, hc, hs⟩)
  dsimp only [Pt.U, Pt.locs, Pt.cells, Pt.slots] at X' l' y' z' stp hQ
  subst l' y' z'
  exact own_st (fun t k => stp.trans k) (k v T' Lc X' hQ)
theorem own_callVB (X : Stand p l e R s m args below meth c T locs cells slots) (hx : p.tables.exec = Jvm.exec) (hZ : Z.Warmed39 s.vm) {y : MethodName} {rc rs : Nat} {W : Nat} {as' : Array Value} (hK : Back l R p e below s args y 3 W (fun A a => a = as' ∧ A.U.heap = h ∧ A.cells + rc ≤ R.cells ∧ A.slots + rs ≤ R.slots) (fun A _ v B => ∃ L, Q v B.U.heap L ∧ B.locs = A.locs ++ L ∧ B.cells = A.cells + rc ∧ B.slots = A.slots + rs)) {own C : String} {index : Nat} (hown : s.vm.findClass own = some m.cls) (w1 : (Cond.methodLink own index y).before a0 Z = true) (w2 : (Cond.declares y).before a0 Z = true) (w3 : (Cond.selects C y y).before a0 Z = true) (w4 : (Cond.instanceMethod y).before a0 Z = true) (hy : y.cls ≠ "java/lang/invoke/MethodHandle" ∧ y.cls ≠ "java/lang/invoke/VarHandle") {a : Addr} (E : Exa Z h a C) {pc : Nat} {Ls : Array Slot} (hsz : Ls.size = c.maxLocals) {argsL rest st : List Value} (ha : (Value.ref a :: argsL).toArray = as') (hlen : ∀ sig, parseMethodDescriptor y.desc = some sig → argsL.length = sig.parameters.length) (hst : st = argsL.reverse ++ .ref a :: rest) (hW : (rest.map fun v => v.category).sum ≤ W) (hd : decode c.code pc = .ok (.invokevirtual index, 3)) (eT : T.heap = h) (hc : cells + rc ≤ R.cells) (hs : slots + rs ≤ R.slots) (k : ∀ (v : Option Value) (T' : State) (L : List Loc), Stand p l e R s m args below meth c T' (locs ++ L) (cells + rc) (slots + rs) → Q v T'.heap L → own_Go p.tables e below (T'.setTop (mkF m (pc + 3) Ls (v.toList ++ rest))) RR) :
    own_Go p.tables e below (T.setTop (mkF m pc Ls st)) RR := by
  subst ha
  obtain ⟨cB, kB, qa, qb, qc⟩ := isOf hZ eT E
  obtain ⟨v, _, ⟨T', L', k', n'⟩, -, X', ⟨Lc, hQ, l', y', z'⟩, stp⟩ := X.virtualBack hx (y := y) (z := y) hown (mvT hZ w1) (mvT hZ w2) (notFace_of_selects (args := #[]) (mvT hZ w3)) (mvT hZ w3) (mvT hZ w4) hy hK qa qc (g := mkF m pc Ls st) rfl hsz (Steps.refl _) (argsL := argsL) (rest := rest) hlen hst (by show 2 * 0 + _ ≤ _; omega) hd (fun _ _ => ⟨rfl, eT, hc, hs⟩)
  dsimp only [Pt.U, Pt.locs, Pt.cells, Pt.slots] at X' l' y' z' stp hQ
  subst l' y' z'
  exact own_st (fun t k => stp.trans k) (k v T' Lc X' hQ)
theorem own_callSB (X : Stand p l e R s m args below meth c T locs cells slots) (hx : p.tables.exec = Jvm.exec) (hZ : Z.Warmed39 s.vm) {y : MethodName} {rc rs : Nat} {W : Nat} {as' : Array Value} (hK : Back l R p e below s args y 3 W (fun A a => a = as' ∧ A.U.heap = h ∧ A.cells + rc ≤ R.cells ∧ A.slots + rs ≤ R.slots) (fun A _ v B => ∃ L, Q v B.U.heap L ∧ B.locs = A.locs ++ L ∧ B.cells = A.cells + rc ∧ B.slots = A.slots + rs)) {own : String} {index : Nat} (hown : s.vm.findClass own = some m.cls) (w1 : (Cond.methodLink own index y).before a0 Z = true) (w2 : (Cond.static y).before a0 Z = true) (w3 : (Cond.initialized y.cls).before a0 Z = true) {bytes : ByteArray} {maxL : Nat} {rt : Option FieldType} (w4 : (Cond.code y bytes maxL rt).before a0 Z = true) (hy : y.cls ≠ "java/lang/invoke/MethodHandle" ∧ y.cls ≠ "java/lang/invoke/VarHandle") {pc : Nat} {Ls : Array Slot} (hsz : Ls.size = c.maxLocals) {argsL rest st : List Value} (ha : argsL.toArray = as') (hlen : ∀ sig, parseMethodDescriptor y.desc = some sig → argsL.length = sig.parameters.length) (hst : st = argsL.reverse ++ rest) (hW : (rest.map fun v => v.category).sum ≤ W) (hd : decode c.code pc = .ok (.invokestatic index, 3)) (eT : T.heap = h) (hc : cells + rc ≤ R.cells) (hs : slots + rs ≤ R.slots) (k : ∀ (v : Option Value) (T' : State) (L : List Loc), Stand p l e R s m args below meth c T' (locs ++ L) (cells + rc) (slots + rs) → Q v T'.heap L → own_Go p.tables e below (T'.setTop (mkF m (pc + 3) Ls (v.toList ++ rest))) RR) :
    own_Go p.tables e below (T.setTop (mkF m pc Ls st)) RR := by
  subst ha
  obtain ⟨v, _, ⟨T', L', k', n'⟩, -, X', ⟨Lc, hQ, l', y', z'⟩, stp⟩ := Jvm.LawKit.callS X hx (y := y) hown (mvT hZ w1) (mvT hZ w2) (mvT hZ w3) (mvT hZ w4) hy hK (g := mkF m pc Ls st) rfl hsz (argsL := argsL) (rest := rest) hlen hst (by show 2 * 0 + _ ≤ _; omega) hd (fun _ _ => ⟨rfl, eT, hc, hs⟩)
  dsimp only [Pt.U, Pt.locs, Pt.cells, Pt.slots] at X' l' y' z' stp hQ
  subst l' y' z'
  exact own_st stp (k v T' Lc X' hQ)
end Own
theorem own_nar0 : nar .boolean (0 : Int32) = 0 := by decide
theorem own_nar1 : nar .boolean (1 : Int32) = 1 := by decide
theorem own_pn0 : plainFor x = true := plainFor_of_name (by first | (simp [x, plainName, overriddenIn]; done) | decide +kernel)
theorem own_pn1 : plainFor (⟨"com/example/inbound_throttle/inboundthrottle/limiter/Decision", "admitted", "(JJ)Lcom/example/inbound_throttle/inboundthrottle/limiter/Decision;"⟩ : MethodName) = true := plainFor_of_name (by first | (simp [plainName, overriddenIn]; done) | decide +kernel)
theorem own_pn2 : plainFor (⟨"com/example/inbound_throttle/inboundthrottle/limiter/Decision", "<init>", "(ZJJLjava/time/Duration;)V"⟩ : MethodName) = true := plainFor_of_name (by first | (simp [plainName, overriddenIn]; done) | decide +kernel)
theorem own_pn4 : plainFor (⟨"com/example/inbound_throttle/inboundthrottle/limiter/Decision", "admitted", "()Z"⟩ : MethodName) = true := plainFor_of_name (by first | (simp [plainName, overriddenIn]; done) | decide +kernel)
theorem own_pn5 : plainFor (⟨"com/example/inbound_throttle/inboundthrottle/limiter/Decision", "limit", "()J"⟩ : MethodName) = true := plainFor_of_name (by first | (simp [plainName, overriddenIn]; done) | decide +kernel)
theorem own_pn6 : plainFor (⟨"com/example/inbound_throttle/inboundthrottle/limiter/Decision", "remaining", "()J"⟩ : MethodName) = true := plainFor_of_name (by first | (simp [plainName, overriddenIn]; done) | decide +kernel)
theorem own_pn7 : plainFor (⟨"com/example/inbound_throttle/inboundthrottle/limiter/Decision", "retryAfter", "()Ljava/time/Duration;"⟩ : MethodName) = true := plainFor_of_name (by first | (simp [plainName, overriddenIn]; done) | decide +kernel)
theorem own_pn8 : plainFor (⟨"com/example/inbound_throttle/inboundthrottle/limiter/Decision", "equals", "(Ljava/lang/Object;)Z"⟩ : MethodName) = true := plainFor_of_name (by first | (simp [plainName, overriddenIn]; done) | decide +kernel)
theorem own_pn9 : plainFor (⟨"java/time/Duration", "equals", "(Ljava/lang/Object;)Z"⟩ : MethodName) = true := plainFor_of_name (by first | (simp [plainName, overriddenIn]; done) | decide +kernel)
theorem own_d2_0 : decode prog_2_method_1_code 0 = .ok (.aload_n 0, 1) := by decide +kernel
theorem own_d2_1 : decode prog_2_method_1_code 1 = .ok (.invokespecial 1, 3) := by decide +kernel
theorem own_d2_4 : decode prog_2_method_1_code 4 = .ok (.aload_n 0, 1) := by decide +kernel
theorem own_d2_5 : decode prog_2_method_1_code 5 = .ok (.iload_n 1, 1) := by decide +kernel
theorem own_d2_6 : decode prog_2_method_1_code 6 = .ok (.putfield 7, 3) := by decide +kernel
theorem own_d2_9 : decode prog_2_method_1_code 9 = .ok (.aload_n 0, 1) := by decide +kernel
theorem own_d2_10 : decode prog_2_method_1_code 10 = .ok (.lload_n 2, 1) := by decide +kernel
theorem own_d2_11 : decode prog_2_method_1_code 11 = .ok (.putfield 13, 3) := by decide +kernel
theorem own_d2_14 : decode prog_2_method_1_code 14 = .ok (.aload_n 0, 1) := by decide +kernel
theorem own_d2_15 : decode prog_2_method_1_code 15 = .ok (.lload 4, 2) := by decide +kernel
theorem own_d2_17 : decode prog_2_method_1_code 17 = .ok (.putfield 17, 3) := by decide +kernel
theorem own_d2_20 : decode prog_2_method_1_code 20 = .ok (.aload_n 0, 1) := by decide +kernel
theorem own_d2_21 : decode prog_2_method_1_code 21 = .ok (.aload 6, 2) := by decide +kernel
theorem own_d2_23 : decode prog_2_method_1_code 23 = .ok (.putfield 20, 3) := by decide +kernel
theorem own_d2_26 : decode prog_2_method_1_code 26 = .ok (.return_, 1) := by decide +kernel
theorem own_ef_rm_in (m : MethodId) (a1 : Addr) (q1 : Int64) (q2 : Int64) (z1 : Addr) : entryFrame m #[(.ref a1), (.int (1 : Int32)), (.long q1), (.long q2), (.ref z1)] 7 = mkF m 0 #[.val (.ref a1), .val (.int (1 : Int32)), .val (.long q1), .second, .val (.long q2), .second, .val (.ref z1)] [] := by first | (simp [entryFrame, mkF, argsToLocals, Value.category]; done) | rfl
def Qrm_in (Z : State) (a1 : Addr) (q1 : Int64) (q2 : Int64) (z1 : Addr) (h0 : Heap) (n0 : Nat) (v : Option Value) (h : Heap) (L : List Loc) : Prop := v = none ∧ Fr n0 L ∧ Keep h0 h [a1] ∧ Exa Z h a1 "com/example/inbound_throttle/inboundthrottle/limiter/Decision" ∧ Fld Z h a1 "com/example/inbound_throttle/inboundthrottle/limiter/Decision" "admitted" "Z" (.int 1) ∧ Fld Z h a1 "com/example/inbound_throttle/inboundthrottle/limiter/Decision" "limit" "J" (.long q1) ∧ Fld Z h a1 "com/example/inbound_throttle/inboundthrottle/limiter/Decision" "remaining" "J" (.long q2) ∧ Fld Z h a1 "com/example/inbound_throttle/inboundthrottle/limiter/Decision" "retryAfter" "Ljava/time/Duration;" (.ref z1)
set_option maxRecDepth 65536 in
set_option maxHeartbeats 40000000 in
theorem rm_in (l : Launch) (Z : State) (a0 : Array Value) (hw : ∀ d ∈ tables_1, d.before a0 Z = true) (ws : List Jvm.Cond) (a1 : Addr) (q1 : Int64) (q2 : Int64) (z1 : Addr) (h0 : Heap) (n0 : Nat) (E_1 : Exa Z h0 a1 "com/example/inbound_throttle/inboundthrottle/limiter/Decision") (F_1 : Fld Z h0 a1 "com/example/inbound_throttle/inboundthrottle/limiter/Decision" "admitted" "Z" (.int (0 : Int32))) (F_2 : Fld Z h0 a1 "com/example/inbound_throttle/inboundthrottle/limiter/Decision" "limit" "J" (.long (0 : Int64))) (F_3 : Fld Z h0 a1 "com/example/inbound_throttle/inboundthrottle/limiter/Decision" "remaining" "J" (.long (0 : Int64))) (F_4 : Fld Z h0 a1 "com/example/inbound_throttle/inboundthrottle/limiter/Decision" "retryAfter" "Ljava/time/Duration;" .null) (G_1 : n0 ≤ a1) :
    own_Met l (⟨"com/example/inbound_throttle/inboundthrottle/limiter/Decision", "<init>", "(ZJJLjava/time/Duration;)V"⟩ : MethodName) prog_2_method_1_code 7 none ws ({ frames := 1, cells := 0, slots := 0, locals := 12 } : Room) #[(.ref a1), (.int (1 : Int32)), (.long q1), (.long q2), (.ref z1)] Z h0 (Qrm_in Z a1 q1 q2 z1 h0 n0) := by
  refine own_body own_pn2 ?_
  intro p e s m below meth c T0 X0 hx hby hml hown hnm hret hlk hZ e0
  have N0 := Fr.nil n0
  refine own_st (fun t k => castTop (own_ef_rm_in m a1 q1 q2 z1) k) ?_
  show own_Go p.tables e below (T0.setTop (mkF m 0 #[.val (.ref a1), .val (.int (1 : Int32)), .val (.long q1), .second, .val (.long q2), .second, .val (.ref z1)] [])) _
  refine own_aloadN X0 hx hby own_d2_0 (pc' := 1) rfl rfl rfl ?_
  refine own_initO X0 hx hby own_d2_1 (pc' := 4) rfl hZ hown (hw _ (List.mem_of_getElem? (i := 11) rfl)) (hw _ (List.mem_of_getElem? (i := 12) rfl)) (hw _ (List.mem_of_getElem? (i := 13) rfl)) e0 (by rw [hml]; rfl) (by decide) (W := 0) (Nat.le_of_eq rfl) (by decide) ?_
  intro T1 X1 e1
  show own_Go p.tables e below (T1.setTop (mkF m 4 #[.val (.ref a1), .val (.int (1 : Int32)), .val (.long q1), .second, .val (.long q2), .second, .val (.ref z1)] [])) _
  refine own_aloadN X1 hx hby own_d2_4 (pc' := 5) rfl rfl rfl ?_
  refine own_iloadN X1 hx hby own_d2_5 (pc' := 6) rfl rfl ?_
  refine own_putN X1 hx hby own_d2_6 (pc' := 9) rfl hZ hown (hw _ (List.mem_of_getElem? (i := 14) rfl)) Via.refl e1 F_1 E_1 (Or.inr ⟨(hw _ (List.mem_of_getElem? (i := 15) rfl)), rfl, hnm⟩) (hw _ (List.mem_of_getElem? (i := 5) rfl)) (ty := .boolean) (v' := (.int (1 : Int32))) (by decide) rfl rfl ?_
  intro T2 h2 X2 e2 W2
  have F2 := (F_1).same W2
  have N2 := Fr.snoc X2 N0 G_1
  refine own_aloadN X2 hx hby own_d2_9 (pc' := 10) rfl rfl rfl ?_
  refine own_lloadN X2 hx hby own_d2_10 (pc' := 11) rfl rfl ?_
  refine own_put X2 hx hby own_d2_11 (pc' := 14) rfl hZ hown (host := "") (Or.inl (hw _ (List.mem_of_getElem? (i := 16) rfl))) Via.refl e2 (F_2.other W2 (Or.inr (slot_ne (Or.inr (hw _ (List.mem_of_getElem? (i := 17) rfl))) (Or.inr (hw _ (List.mem_of_getElem? (i := 15) rfl))) (by decide) (t := .long) (t' := .boolean) (by decide) (by decide)))) (E_1.wr W2) (Or.inr ⟨(hw _ (List.mem_of_getElem? (i := 17) rfl)), rfl, hnm⟩) (hw _ (List.mem_of_getElem? (i := 5) rfl)) (ty := .long) (by decide) rfl rfl ?_
  intro T3 h3 X3 e3 W3
  have F3 := ((F_2.other W2 (Or.inr (slot_ne (Or.inr (hw _ (List.mem_of_getElem? (i := 17) rfl))) (Or.inr (hw _ (List.mem_of_getElem? (i := 15) rfl))) (by decide) (t := .long) (t' := .boolean) (by decide) (by decide))))).same W3
  have N3 := Fr.snoc X3 N2 G_1
  refine own_aloadN X3 hx hby own_d2_14 (pc' := 15) rfl rfl rfl ?_
  refine own_lload X3 hx hby own_d2_15 (pc' := 17) rfl rfl ?_
  refine own_put X3 hx hby own_d2_17 (pc' := 20) rfl hZ hown (host := "") (Or.inl (hw _ (List.mem_of_getElem? (i := 18) rfl))) Via.refl e3 ((F_3.other W2 (Or.inr (slot_ne (Or.inr (hw _ (List.mem_of_getElem? (i := 19) rfl))) (Or.inr (hw _ (List.mem_of_getElem? (i := 15) rfl))) (by decide) (t := .long) (t' := .boolean) (by decide) (by decide)))).other W3 (Or.inr (slot_ne (Or.inr (hw _ (List.mem_of_getElem? (i := 19) rfl))) (Or.inr (hw _ (List.mem_of_getElem? (i := 17) rfl))) (by decide) (t := .long) (t' := .long) (by decide) (by decide)))) ((E_1.wr W2).wr W3) (Or.inr ⟨(hw _ (List.mem_of_getElem? (i := 19) rfl)), rfl, hnm⟩) (hw _ (List.mem_of_getElem? (i := 5) rfl)) (ty := .long) (by decide) rfl rfl ?_
  intro T4 h4 X4 e4 W4
  have F4 := (((F_3.other W2 (Or.inr (slot_ne (Or.inr (hw _ (List.mem_of_getElem? (i := 19) rfl))) (Or.inr (hw _ (List.mem_of_getElem? (i := 15) rfl))) (by decide) (t := .long) (t' := .boolean) (by decide) (by decide)))).other W3 (Or.inr (slot_ne (Or.inr (hw _ (List.mem_of_getElem? (i := 19) rfl))) (Or.inr (hw _ (List.mem_of_getElem? (i := 17) rfl))) (by decide) (t := .long) (t' := .long) (by decide) (by decide))))).same W4
  have N4 := Fr.snoc X4 N3 G_1
  refine own_aloadN X4 hx hby own_d2_20 (pc' := 21) rfl rfl rfl ?_
  refine own_aload X4 hx hby own_d2_21 (pc' := 23) rfl rfl rfl ?_
  refine own_put X4 hx hby own_d2_23 (pc' := 26) rfl hZ hown (host := "") (Or.inl (hw _ (List.mem_of_getElem? (i := 20) rfl))) Via.refl e4 (((F_4.other W2 (Or.inr (slot_ne (Or.inr (hw _ (List.mem_of_getElem? (i := 21) rfl))) (Or.inr (hw _ (List.mem_of_getElem? (i := 15) rfl))) (by decide) (t := (.object "java/time/Duration")) (t' := .boolean) (by decide) (by decide)))).other W3 (Or.inr (slot_ne (Or.inr (hw _ (List.mem_of_getElem? (i := 21) rfl))) (Or.inr (hw _ (List.mem_of_getElem? (i := 17) rfl))) (by decide) (t := (.object "java/time/Duration")) (t' := .long) (by decide) (by decide)))).other W4 (Or.inr (slot_ne (Or.inr (hw _ (List.mem_of_getElem? (i := 21) rfl))) (Or.inr (hw _ (List.mem_of_getElem? (i := 19) rfl))) (by decide) (t := (.object "java/time/Duration")) (t' := .long) (by decide) (by decide)))) (((E_1.wr W2).wr W3).wr W4) (Or.inr ⟨(hw _ (List.mem_of_getElem? (i := 21) rfl)), rfl, hnm⟩) (hw _ (List.mem_of_getElem? (i := 5) rfl)) (ty := (.object "java/time/Duration")) (by decide) rfl rfl ?_
  intro T5 h5 X5 e5 W5
  have F5 := ((((F_4.other W2 (Or.inr (slot_ne (Or.inr (hw _ (List.mem_of_getElem? (i := 21) rfl))) (Or.inr (hw _ (List.mem_of_getElem? (i := 15) rfl))) (by decide) (t := (.object "java/time/Duration")) (t' := .boolean) (by decide) (by decide)))).other W3 (Or.inr (slot_ne (Or.inr (hw _ (List.mem_of_getElem? (i := 21) rfl))) (Or.inr (hw _ (List.mem_of_getElem? (i := 17) rfl))) (by decide) (t := (.object "java/time/Duration")) (t' := .long) (by decide) (by decide)))).other W4 (Or.inr (slot_ne (Or.inr (hw _ (List.mem_of_getElem? (i := 21) rfl))) (Or.inr (hw _ (List.mem_of_getElem? (i := 19) rfl))) (by decide) (t := (.object "java/time/Duration")) (t' := .long) (by decide) (by decide))))).same W5
  have N5 := Fr.snoc X5 N4 G_1
  exact own_retV X5 hx hret (hb hby own_d2_26) hlk (by decide) (by decide) ⟨rfl, N5, by rw [e5]; exact ⟨(((((Keep.refl h0 [a1]).wr W2 (Or.inl (List.mem_of_getElem? (i := 0) rfl))).wr W3 (Or.inl (List.mem_of_getElem? (i := 0) rfl))).wr W4 (Or.inl (List.mem_of_getElem? (i := 0) rfl))).wr W5 (Or.inl (List.mem_of_getElem? (i := 0) rfl))), ((((E_1.wr W2).wr W3).wr W4).wr W5), (((F2.other W3 (Or.inr (slot_ne (Or.inr (hw _ (List.mem_of_getElem? (i := 15) rfl))) (Or.inr (hw _ (List.mem_of_getElem? (i := 17) rfl))) (by decide) (t := .boolean) (t' := .long) (by decide) (by decide)))).other W4 (Or.inr (slot_ne (Or.inr (hw _ (List.mem_of_getElem? (i := 15) rfl))) (Or.inr (hw _ (List.mem_of_getElem? (i := 19) rfl))) (by decide) (t := .boolean) (t' := .long) (by decide) (by decide)))).other W5 (Or.inr (slot_ne (Or.inr (hw _ (List.mem_of_getElem? (i := 15) rfl))) (Or.inr (hw _ (List.mem_of_getElem? (i := 21) rfl))) (by decide) (t := .boolean) (t' := (.object "java/time/Duration")) (by decide) (by decide)))), ((F3.other W4 (Or.inr (slot_ne (Or.inr (hw _ (List.mem_of_getElem? (i := 17) rfl))) (Or.inr (hw _ (List.mem_of_getElem? (i := 19) rfl))) (by decide) (t := .long) (t' := .long) (by decide) (by decide)))).other W5 (Or.inr (slot_ne (Or.inr (hw _ (List.mem_of_getElem? (i := 17) rfl))) (Or.inr (hw _ (List.mem_of_getElem? (i := 21) rfl))) (by decide) (t := .long) (t' := (.object "java/time/Duration")) (by decide) (by decide)))), (F4.other W5 (Or.inr (slot_ne (Or.inr (hw _ (List.mem_of_getElem? (i := 19) rfl))) (Or.inr (hw _ (List.mem_of_getElem? (i := 21) rfl))) (by decide) (t := .long) (t' := (.object "java/time/Duration")) (by decide) (by decide)))), F5⟩⟩
theorem own_pd0 : parseMethodDescriptor "(ZJJLjava/time/Duration;)V" = some ⟨[.boolean, .long, .long, (.object "java/time/Duration")], none⟩ := by decide +kernel
theorem own_d1_0 : decode prog_2_method_2_code 0 = .ok (.new 8, 3) := by decide +kernel
theorem own_d1_3 : decode prog_2_method_2_code 3 = .ok (.dup, 1) := by decide +kernel
theorem own_d1_4 : decode prog_2_method_2_code 4 = .ok (.iconst 1, 1) := by decide +kernel
theorem own_d1_5 : decode prog_2_method_2_code 5 = .ok (.lload_n 0, 1) := by decide +kernel
theorem own_d1_6 : decode prog_2_method_2_code 6 = .ok (.lload_n 2, 1) := by decide +kernel
theorem own_d1_7 : decode prog_2_method_2_code 7 = .ok (.getstatic 24, 3) := by decide +kernel
theorem own_d1_10 : decode prog_2_method_2_code 10 = .ok (.invokespecial 29, 3) := by decide +kernel
theorem own_d1_13 : decode prog_2_method_2_code 13 = .ok (.areturn, 1) := by decide +kernel
theorem own_ef_rm_ad (m : MethodId) (q1 : Int64) (q2 : Int64) : entryFrame m #[(.long q1), (.long q2)] 4 = mkF m 0 #[.val (.long q1), .second, .val (.long q2), .second] [] := by first | (simp [entryFrame, mkF, argsToLocals, Value.category]; done) | rfl
def Qrm_ad (Z : State) (q1 : Int64) (q2 : Int64) (z1 : Addr) (h0 : Heap) (n0 : Nat) (v : Option Value) (h : Heap) (L : List Loc) : Prop := ∃ b, v = some (.ref b) ∧ Fr n0 L ∧ Keep h0 h [] ∧ h0.size ≤ b ∧ Exa Z h b "com/example/inbound_throttle/inboundthrottle/limiter/Decision" ∧ Fld Z h b "com/example/inbound_throttle/inboundthrottle/limiter/Decision" "admitted" "Z" (.int 1) ∧ Fld Z h b "com/example/inbound_throttle/inboundthrottle/limiter/Decision" "limit" "J" (.long q1) ∧ Fld Z h b "com/example/inbound_throttle/inboundthrottle/limiter/Decision" "remaining" "J" (.long q2) ∧ Fld Z h b "com/example/inbound_throttle/inboundthrottle/limiter/Decision" "retryAfter" "Ljava/time/Duration;" (.ref z1)
set_option maxRecDepth 65536 in
set_option maxHeartbeats 40000000 in
theorem rm_ad (l : Launch) (Z : State) (a0 : Array Value) (hw : ∀ d ∈ tables_1, d.before a0 Z = true) (ws : List Jvm.Cond) (q1 : Int64) (q2 : Int64) (z1 : Addr) (h0 : Heap) (n0 : Nat) (O_0 : Old Z n0 h0) (S_Z : Sta Z Z.heap "java/time/Duration" "ZERO" "Ljava/time/Duration;" (.ref z1)) :
    own_Met l (⟨"com/example/inbound_throttle/inboundthrottle/limiter/Decision", "admitted", "(JJ)Lcom/example/inbound_throttle/inboundthrottle/limiter/Decision;"⟩ : MethodName) prog_2_method_2_code 4 (some (.object "com/example/inbound_throttle/inboundthrottle/limiter/Decision")) ws ({ frames := 2, cells := 1, slots := 4, locals := 31 } : Room) #[(.long q1), (.long q2)] Z h0 (Qrm_ad Z q1 q2 z1 h0 n0) := by
  refine own_body own_pn1 ?_
  intro p e s m below meth c T0 X0 hx hby hml hown hnm hret hlk hZ e0
  have N0 := Fr.nil n0
  refine own_st (fun t k => castTop (own_ef_rm_ad m q1 q2) k) ?_
  show own_Go p.tables e below (T0.setTop (mkF m 0 #[.val (.long q1), .second, .val (.long q2), .second] [])) _
  have Z0 := own_Z0 O_0
  refine own_new X0 hx hby own_d1_0 (pc' := 3) rfl hZ hown (hw _ (List.mem_of_getElem? (i := 4) rfl)) (hw _ (List.mem_of_getElem? (i := 5) rfl)) (hw _ (List.mem_of_getElem? (i := 2) rfl)) e0 (by decide) (by decide) ?_
  intro T6 h6 b6 X6 e6 g6 E6 A6 D6
  have F6_admitted : Fld Z h6 b6 "com/example/inbound_throttle/inboundthrottle/limiter/Decision" "admitted" "Z" (.int (0 : Int32)) := D6 (Or.inr (hw _ (List.mem_of_getElem? (i := 15) rfl))) (ty := .boolean) (by decide)
  have F6_limit : Fld Z h6 b6 "com/example/inbound_throttle/inboundthrottle/limiter/Decision" "limit" "J" (.long (0 : Int64)) := D6 (Or.inr (hw _ (List.mem_of_getElem? (i := 17) rfl))) (ty := .long) (by decide)
  have F6_remaining : Fld Z h6 b6 "com/example/inbound_throttle/inboundthrottle/limiter/Decision" "remaining" "J" (.long (0 : Int64)) := D6 (Or.inr (hw _ (List.mem_of_getElem? (i := 19) rfl))) (ty := .long) (by decide)
  have F6_retryAfter : Fld Z h6 b6 "com/example/inbound_throttle/inboundthrottle/limiter/Decision" "retryAfter" "Ljava/time/Duration;" .null := D6 (Or.inr (hw _ (List.mem_of_getElem? (i := 21) rfl))) (ty := (.object "java/time/Duration")) (by decide)
  have l6 : n0 ≤ b6 := (Nat.le_trans Z0 (Nat.le_trans (Nat.le_refl _) (Nat.le_of_eq g6.symm)))
  refine own_dup X6 hx hby own_d1_3 (pc' := 4) rfl rfl ?_
  refine own_iconst X6 hx hby own_d1_4 (pc' := 5) rfl (z := (1 : Int32)) (by decide) ?_
  refine own_lloadN X6 hx hby own_d1_5 (pc' := 6) rfl rfl ?_
  refine own_lloadN X6 hx hby own_d1_6 (pc' := 7) rfl rfl ?_
  refine own_getS X6 hx hby own_d1_7 (pc' := 10) rfl hZ hown (host := "") (Or.inl (hw _ (List.mem_of_getElem? (i := 6) rfl))) Via.refl e6 (S_Z.ext ((O_0.ext E6)).2) ?_
  intro T7 X7 e7
  refine own_callSp X7 hx hZ (rm_in l Z a0 hw [] b6 q1 q2 z1 h6 n0 A6 F6_admitted F6_limit F6_remaining F6_retryAfter l6) rfl hown (hw _ (List.mem_of_getElem? (i := 8) rfl)) (hw _ (List.mem_of_getElem? (i := 9) rfl)) (hw _ (List.mem_of_getElem? (i := 10) rfl)) (hw _ (List.mem_of_getElem? (i := 2) rfl)) (by decide) (W := 1) (by decide) (by decide) (by rw [hml]; rfl) (argsL := [(.int (1 : Int32)), (.long q1), (.long q2), (.ref z1)]) (rest := [(.ref b6)]) rfl (lenOf own_pd0 rfl) rfl (Nat.le_of_eq rfl) (hb hby own_d1_10) e7 (by decide) (by decide) ?_
  intro v8 T8 L8 X8 hQ8
  obtain ⟨hv8, N8q, K8, E8, Fa8, Fb8, Fc8, Fd8⟩ := hQ8
  subst hv8
  have N8 := Fr.app N0 N8q
  show own_Go p.tables e below (T8.setTop (mkF m 13 #[.val (.long q1), .second, .val (.long q2), .second] [(.ref b6)])) _
  exact own_retA X8 hx hret rfl rfl (hb hby own_d1_13) hlk (by decide) (by decide) ⟨b6, rfl, N8, (((Keep.refl h0 []).ext E6).trans K8 (allS (Or.inr (Nat.le_trans (Nat.le_refl _) (Nat.le_of_eq g6.symm))) all0)), (Nat.le_of_eq g6.symm), E8, Fa8, Fb8, Fc8, Fd8⟩
theorem own_d4_0 : decode prog_2_method_4_code 0 = .ok (.aload_n 0, 1) := by decide +kernel
theorem own_d4_1 : decode prog_2_method_4_code 1 = .ok (.getfield 7, 3) := by decide +kernel
theorem own_d4_4 : decode prog_2_method_4_code 4 = .ok (.ireturn, 1) := by decide +kernel
theorem own_ef_rm_g0 (m : MethodId) (a1 : Addr) : entryFrame m #[(.ref a1)] 1 = mkF m 0 #[.val (.ref a1)] [] := by first | (simp [entryFrame, mkF, argsToLocals, Value.category]; done) | rfl
def Qrm_g0 (Z : State) (a1 : Addr) (h0 : Heap) (n0 : Nat) (v : Option Value) (h : Heap) (L : List Loc) : Prop := v = some (.int 1) ∧ Fr n0 L ∧ h = h0
set_option maxRecDepth 65536 in
set_option maxHeartbeats 40000000 in
theorem rm_g0 (l : Launch) (Z : State) (a0 : Array Value) (hw : ∀ d ∈ tables_1, d.before a0 Z = true) (ws : List Jvm.Cond) (a1 : Addr) (h0 : Heap) (n0 : Nat) (F_1 : Fld Z h0 a1 "com/example/inbound_throttle/inboundthrottle/limiter/Decision" "admitted" "Z" (.int 1)) :
    own_Met l (⟨"com/example/inbound_throttle/inboundthrottle/limiter/Decision", "admitted", "()Z"⟩ : MethodName) prog_2_method_4_code 1 (some .boolean) ws ({ frames := 0, cells := 0, slots := 0, locals := 0 } : Room) #[(.ref a1)] Z h0 (Qrm_g0 Z a1 h0 n0) := by
  refine own_body own_pn4 ?_
  intro p e s m below meth c T0 X0 hx hby hml hown hnm hret hlk hZ e0
  have N0 := Fr.nil n0
  refine own_st (fun t k => castTop (own_ef_rm_g0 m a1) k) ?_
  show own_Go p.tables e below (T0.setTop (mkF m 0 #[.val (.ref a1)] [])) _
  refine own_aloadN X0 hx hby own_d4_0 (pc' := 1) rfl rfl rfl ?_
  refine own_getF X0 hx hby own_d4_1 (pc' := 4) rfl hZ hown (host := "") (Or.inl (hw _ (List.mem_of_getElem? (i := 14) rfl))) Via.refl e0 F_1 ?_
  intro T9 X9 e9
  exact own_retZ (t := .boolean) X9 hx hret (by simp) (hb hby own_d4_4) hlk (by decide) (by decide) ⟨congrArg (fun z => some (Value.int z)) (own_nar1), N0, e9⟩
theorem own_d5_0 : decode prog_2_method_5_code 0 = .ok (.aload_n 0, 1) := by decide +kernel
theorem own_d5_1 : decode prog_2_method_5_code 1 = .ok (.getfield 13, 3) := by decide +kernel
theorem own_d5_4 : decode prog_2_method_5_code 4 = .ok (.lreturn, 1) := by decide +kernel
theorem own_ef_rm_g1 (m : MethodId) (a1 : Addr) : entryFrame m #[(.ref a1)] 1 = mkF m 0 #[.val (.ref a1)] [] := by first | (simp [entryFrame, mkF, argsToLocals, Value.category]; done) | rfl
def Qrm_g1 (Z : State) (a1 : Addr) (x1 : Int64) (h0 : Heap) (n0 : Nat) (v : Option Value) (h : Heap) (L : List Loc) : Prop := v = some (.long x1) ∧ Fr n0 L ∧ h = h0
set_option maxRecDepth 65536 in
set_option maxHeartbeats 40000000 in
theorem rm_g1 (l : Launch) (Z : State) (a0 : Array Value) (hw : ∀ d ∈ tables_1, d.before a0 Z = true) (ws : List Jvm.Cond) (a1 : Addr) (x1 : Int64) (h0 : Heap) (n0 : Nat) (F_1 : Fld Z h0 a1 "com/example/inbound_throttle/inboundthrottle/limiter/Decision" "limit" "J" (.long x1)) :
    own_Met l (⟨"com/example/inbound_throttle/inboundthrottle/limiter/Decision", "limit", "()J"⟩ : MethodName) prog_2_method_5_code 1 (some .long) ws ({ frames := 0, cells := 0, slots := 0, locals := 0 } : Room) #[(.ref a1)] Z h0 (Qrm_g1 Z a1 x1 h0 n0) := by
  refine own_body own_pn5 ?_
  intro p e s m below meth c T0 X0 hx hby hml hown hnm hret hlk hZ e0
  have N0 := Fr.nil n0
  refine own_st (fun t k => castTop (own_ef_rm_g1 m a1) k) ?_
  show own_Go p.tables e below (T0.setTop (mkF m 0 #[.val (.ref a1)] [])) _
  refine own_aloadN X0 hx hby own_d5_0 (pc' := 1) rfl rfl rfl ?_
  refine own_getF X0 hx hby own_d5_1 (pc' := 4) rfl hZ hown (host := "") (Or.inl (hw _ (List.mem_of_getElem? (i := 16) rfl))) Via.refl e0 F_1 ?_
  intro T10 X10 e10
  exact own_retJ X10 hx hret (hb hby own_d5_4) hlk (by decide) (by decide) ⟨rfl, N0, e10⟩
theorem own_d6_0 : decode prog_2_method_6_code 0 = .ok (.aload_n 0, 1) := by decide +kernel
theorem own_d6_1 : decode prog_2_method_6_code 1 = .ok (.getfield 17, 3) := by decide +kernel
theorem own_d6_4 : decode prog_2_method_6_code 4 = .ok (.lreturn, 1) := by decide +kernel
theorem own_ef_rm_g2 (m : MethodId) (a1 : Addr) : entryFrame m #[(.ref a1)] 1 = mkF m 0 #[.val (.ref a1)] [] := by first | (simp [entryFrame, mkF, argsToLocals, Value.category]; done) | rfl
def Qrm_g2 (Z : State) (a1 : Addr) (x1 : Int64) (h0 : Heap) (n0 : Nat) (v : Option Value) (h : Heap) (L : List Loc) : Prop := v = some (.long x1) ∧ Fr n0 L ∧ h = h0
set_option maxRecDepth 65536 in
set_option maxHeartbeats 40000000 in
theorem rm_g2 (l : Launch) (Z : State) (a0 : Array Value) (hw : ∀ d ∈ tables_1, d.before a0 Z = true) (ws : List Jvm.Cond) (a1 : Addr) (x1 : Int64) (h0 : Heap) (n0 : Nat) (F_1 : Fld Z h0 a1 "com/example/inbound_throttle/inboundthrottle/limiter/Decision" "remaining" "J" (.long x1)) :
    own_Met l (⟨"com/example/inbound_throttle/inboundthrottle/limiter/Decision", "remaining", "()J"⟩ : MethodName) prog_2_method_6_code 1 (some .long) ws ({ frames := 0, cells := 0, slots := 0, locals := 0 } : Room) #[(.ref a1)] Z h0 (Qrm_g2 Z a1 x1 h0 n0) := by
  refine own_body own_pn6 ?_
  intro p e s m below meth c T0 X0 hx hby hml hown hnm hret hlk hZ e0
  have N0 := Fr.nil n0
  refine own_st (fun t k => castTop (own_ef_rm_g2 m a1) k) ?_
  show own_Go p.tables e below (T0.setTop (mkF m 0 #[.val (.ref a1)] [])) _
  refine own_aloadN X0 hx hby own_d6_0 (pc' := 1) rfl rfl rfl ?_
  refine own_getF X0 hx hby own_d6_1 (pc' := 4) rfl hZ hown (host := "") (Or.inl (hw _ (List.mem_of_getElem? (i := 18) rfl))) Via.refl e0 F_1 ?_
  intro T11 X11 e11
  exact own_retJ X11 hx hret (hb hby own_d6_4) hlk (by decide) (by decide) ⟨rfl, N0, e11⟩
theorem own_d7_0 : decode prog_2_method_7_code 0 = .ok (.aload_n 0, 1) := by decide +kernel
theorem own_d7_1 : decode prog_2_method_7_code 1 = .ok (.getfield 20, 3) := by decide +kernel
theorem own_d7_4 : decode prog_2_method_7_code 4 = .ok (.areturn, 1) := by decide +kernel
theorem own_ef_rm_g3 (m : MethodId) (a1 : Addr) : entryFrame m #[(.ref a1)] 1 = mkF m 0 #[.val (.ref a1)] [] := by first | (simp [entryFrame, mkF, argsToLocals, Value.category]; done) | rfl
def Qrm_g3 (Z : State) (a1 : Addr) (x1 : Addr) (h0 : Heap) (n0 : Nat) (v : Option Value) (h : Heap) (L : List Loc) : Prop := v = some (.ref x1) ∧ Fr n0 L ∧ h = h0
set_option maxRecDepth 65536 in
set_option maxHeartbeats 40000000 in
theorem rm_g3 (l : Launch) (Z : State) (a0 : Array Value) (hw : ∀ d ∈ tables_1, d.before a0 Z = true) (ws : List Jvm.Cond) (a1 : Addr) (x1 : Addr) (h0 : Heap) (n0 : Nat) (F_1 : Fld Z h0 a1 "com/example/inbound_throttle/inboundthrottle/limiter/Decision" "retryAfter" "Ljava/time/Duration;" (.ref x1)) :
    own_Met l (⟨"com/example/inbound_throttle/inboundthrottle/limiter/Decision", "retryAfter", "()Ljava/time/Duration;"⟩ : MethodName) prog_2_method_7_code 1 (some (.object "java/time/Duration")) ws ({ frames := 0, cells := 0, slots := 0, locals := 0 } : Room) #[(.ref a1)] Z h0 (Qrm_g3 Z a1 x1 h0 n0) := by
  refine own_body own_pn7 ?_
  intro p e s m below meth c T0 X0 hx hby hml hown hnm hret hlk hZ e0
  have N0 := Fr.nil n0
  refine own_st (fun t k => castTop (own_ef_rm_g3 m a1) k) ?_
  show own_Go p.tables e below (T0.setTop (mkF m 0 #[.val (.ref a1)] [])) _
  refine own_aloadN X0 hx hby own_d7_0 (pc' := 1) rfl rfl rfl ?_
  refine own_getF X0 hx hby own_d7_1 (pc' := 4) rfl hZ hown (host := "") (Or.inl (hw _ (List.mem_of_getElem? (i := 20) rfl))) Via.refl e0 F_1 ?_
  intro T12 X12 e12
  exact own_retA X12 hx hret rfl rfl (hb hby own_d7_4) hlk (by decide) (by decide) ⟨rfl, N0, e12⟩
theorem own_d9_0 : decode jdk_2316_method_67_code 0 = .ok (.aload_n 0, 1) := by decide +kernel
theorem own_d9_1 : decode jdk_2316_method_67_code 1 = .ok (.aload_n 1, 1) := by decide +kernel
theorem own_d9_2 : decode jdk_2316_method_67_code 2 = .ok (.if_acmp .ne 5, 3) := by decide +kernel
theorem own_d9_5 : decode jdk_2316_method_67_code 5 = .ok (.iconst 1, 1) := by decide +kernel
theorem own_d9_6 : decode jdk_2316_method_67_code 6 = .ok (.ireturn, 1) := by decide +kernel
theorem own_ef_rm_de (m : MethodId) (z1 : Addr) : entryFrame m #[(.ref z1), (.ref z1)] 3 = mkF m 0 #[.val (.ref z1), .val (.ref z1), .unset] [] := by first | (simp [entryFrame, mkF, argsToLocals, Value.category]; done) | rfl
def Qrm_de (Z : State) (z1 : Addr) (h0 : Heap) (n0 : Nat) (v : Option Value) (h : Heap) (L : List Loc) : Prop := v = some (.int 1) ∧ Fr n0 L ∧ h = h0
set_option maxRecDepth 65536 in
set_option maxHeartbeats 40000000 in
theorem rm_de (l : Launch) (Z : State) (a0 : Array Value) (hw : ∀ d ∈ tables_1, d.before a0 Z = true) (ws : List Jvm.Cond) (z1 : Addr) (h0 : Heap) (n0 : Nat) :
    own_Met l (⟨"java/time/Duration", "equals", "(Ljava/lang/Object;)Z"⟩ : MethodName) jdk_2316_method_67_code 3 (some .boolean) ws ({ frames := 0, cells := 0, slots := 0, locals := 0 } : Room) #[(.ref z1), (.ref z1)] Z h0 (Qrm_de Z z1 h0 n0) := by
  refine own_body own_pn9 ?_
  intro p e s m below meth c T0 X0 hx hby hml hown hnm hret hlk hZ e0
  have N0 := Fr.nil n0
  refine own_st (fun t k => castTop (own_ef_rm_de m z1) k) ?_
  show own_Go p.tables e below (T0.setTop (mkF m 0 #[.val (.ref z1), .val (.ref z1), .unset] [])) _
  refine own_aloadN X0 hx hby own_d9_0 (pc' := 1) rfl rfl rfl ?_
  refine own_aloadN X0 hx hby own_d9_1 (pc' := 2) rfl rfl rfl ?_
  refine own_acmp X0 hx hby own_d9_2 (pc' := 5) (same := true) rfl rfl (decide_eq_true rfl) (by decide) ?_
  refine own_iconst X0 hx hby own_d9_5 (pc' := 6) rfl (z := (1 : Int32)) (by decide) ?_
  exact own_retZ (t := .boolean) X0 hx hret (by simp) (hb hby own_d9_6) hlk (by decide) (by decide) ⟨congrArg (fun z => some (Value.int z)) (own_nar1), N0, e0⟩
theorem own_pd1 : parseMethodDescriptor "(Ljava/lang/Object;)Z" = some ⟨[(.object "java/lang/Object")], some .boolean⟩ := by decide +kernel
theorem own_d8_0 : decode prog_2_method_8_code 0 = .ok (.aload_n 1, 1) := by decide +kernel
theorem own_d8_1 : decode prog_2_method_8_code 1 = .ok (.instanceof 8, 3) := by decide +kernel
theorem own_d8_4 : decode prog_2_method_8_code 4 = .ok (.ifCond .eq 11, 3) := by decide +kernel
theorem own_d8_7 : decode prog_2_method_8_code 7 = .ok (.aload_n 1, 1) := by decide +kernel
theorem own_d8_8 : decode prog_2_method_8_code 8 = .ok (.checkcast 8, 3) := by decide +kernel
theorem own_d8_11 : decode prog_2_method_8_code 11 = .ok (.astore_n 2, 1) := by decide +kernel
theorem own_d8_12 : decode prog_2_method_8_code 12 = .ok (.goto 5, 3) := by decide +kernel
theorem own_d8_17 : decode prog_2_method_8_code 17 = .ok (.aload_n 0, 1) := by decide +kernel
theorem own_d8_18 : decode prog_2_method_8_code 18 = .ok (.getfield 7, 3) := by decide +kernel
theorem own_d8_21 : decode prog_2_method_8_code 21 = .ok (.aload_n 2, 1) := by decide +kernel
theorem own_d8_22 : decode prog_2_method_8_code 22 = .ok (.getfield 7, 3) := by decide +kernel
theorem own_d8_25 : decode prog_2_method_8_code 25 = .ok (.if_icmp .ne 45, 3) := by decide +kernel
theorem own_d8_28 : decode prog_2_method_8_code 28 = .ok (.aload_n 0, 1) := by decide +kernel
theorem own_d8_29 : decode prog_2_method_8_code 29 = .ok (.getfield 13, 3) := by decide +kernel
theorem own_d8_32 : decode prog_2_method_8_code 32 = .ok (.aload_n 2, 1) := by decide +kernel
theorem own_d8_33 : decode prog_2_method_8_code 33 = .ok (.getfield 13, 3) := by decide +kernel
theorem own_d8_36 : decode prog_2_method_8_code 36 = .ok (.lcmp, 1) := by decide +kernel
theorem own_d8_37 : decode prog_2_method_8_code 37 = .ok (.ifCond .ne 33, 3) := by decide +kernel
theorem own_d8_40 : decode prog_2_method_8_code 40 = .ok (.aload_n 0, 1) := by decide +kernel
theorem own_d8_41 : decode prog_2_method_8_code 41 = .ok (.getfield 17, 3) := by decide +kernel
theorem own_d8_44 : decode prog_2_method_8_code 44 = .ok (.aload_n 2, 1) := by decide +kernel
theorem own_d8_45 : decode prog_2_method_8_code 45 = .ok (.getfield 17, 3) := by decide +kernel
theorem own_d8_48 : decode prog_2_method_8_code 48 = .ok (.lcmp, 1) := by decide +kernel
theorem own_d8_49 : decode prog_2_method_8_code 49 = .ok (.ifCond .ne 21, 3) := by decide +kernel
theorem own_d8_52 : decode prog_2_method_8_code 52 = .ok (.aload_n 0, 1) := by decide +kernel
theorem own_d8_53 : decode prog_2_method_8_code 53 = .ok (.getfield 20, 3) := by decide +kernel
theorem own_d8_56 : decode prog_2_method_8_code 56 = .ok (.aload_n 2, 1) := by decide +kernel
theorem own_d8_57 : decode prog_2_method_8_code 57 = .ok (.getfield 20, 3) := by decide +kernel
theorem own_d8_60 : decode prog_2_method_8_code 60 = .ok (.invokevirtual 39, 3) := by decide +kernel
theorem own_d8_63 : decode prog_2_method_8_code 63 = .ok (.ifCond .eq 7, 3) := by decide +kernel
theorem own_d8_66 : decode prog_2_method_8_code 66 = .ok (.iconst 1, 1) := by decide +kernel
theorem own_d8_67 : decode prog_2_method_8_code 67 = .ok (.goto 4, 3) := by decide +kernel
theorem own_d8_70 : decode prog_2_method_8_code 70 = .ok (.iconst 0, 1) := by decide +kernel
theorem own_d8_71 : decode prog_2_method_8_code 71 = .ok (.ireturn, 1) := by decide +kernel
theorem own_ef_rm_eq (m : MethodId) (a1 : Addr) (a2 : Addr) : entryFrame m #[(.ref a1), (.ref a2)] 3 = mkF m 0 #[.val (.ref a1), .val (.ref a2), .unset] [] := by first | (simp [entryFrame, mkF, argsToLocals, Value.category]; done) | rfl
def Qrm_eq (Z : State) (a1 : Addr) (a2 : Addr) (q1 : Int64) (q2 : Int64) (q3 : Int64) (q4 : Int64) (z1 : Addr) (h0 : Heap) (n0 : Nat) (v : Option Value) (h : Heap) (L : List Loc) : Prop := v = some (.int (if q1 = q3 ∧ q2 = q4 then 1 else 0)) ∧ Fr n0 L ∧ h = h0
set_option maxRecDepth 65536 in
set_option maxHeartbeats 40000000 in
theorem rm_eq (l : Launch) (Z : State) (a0 : Array Value) (hw : ∀ d ∈ tables_1, d.before a0 Z = true) (ws : List Jvm.Cond) (a1 : Addr) (a2 : Addr) (q1 : Int64) (q2 : Int64) (q3 : Int64) (q4 : Int64) (z1 : Addr) (h0 : Heap) (n0 : Nat) (E_a1 : Exa Z h0 a1 "com/example/inbound_throttle/inboundthrottle/limiter/Decision") (E_a2 : Exa Z h0 a2 "com/example/inbound_throttle/inboundthrottle/limiter/Decision") (E_z : Exa Z h0 z1 "java/time/Duration") (F0_a1 : Fld Z h0 a1 "com/example/inbound_throttle/inboundthrottle/limiter/Decision" "admitted" "Z" (.int 1)) (F1_a1 : Fld Z h0 a1 "com/example/inbound_throttle/inboundthrottle/limiter/Decision" "limit" "J" (.long q1)) (F2_a1 : Fld Z h0 a1 "com/example/inbound_throttle/inboundthrottle/limiter/Decision" "remaining" "J" (.long q2)) (F3_a1 : Fld Z h0 a1 "com/example/inbound_throttle/inboundthrottle/limiter/Decision" "retryAfter" "Ljava/time/Duration;" (.ref z1)) (F0_a2 : Fld Z h0 a2 "com/example/inbound_throttle/inboundthrottle/limiter/Decision" "admitted" "Z" (.int 1)) (F1_a2 : Fld Z h0 a2 "com/example/inbound_throttle/inboundthrottle/limiter/Decision" "limit" "J" (.long q3)) (F2_a2 : Fld Z h0 a2 "com/example/inbound_throttle/inboundthrottle/limiter/Decision" "remaining" "J" (.long q4)) (F3_a2 : Fld Z h0 a2 "com/example/inbound_throttle/inboundthrottle/limiter/Decision" "retryAfter" "Ljava/time/Duration;" (.ref z1)) :
    own_Met l (⟨"com/example/inbound_throttle/inboundthrottle/limiter/Decision", "equals", "(Ljava/lang/Object;)Z"⟩ : MethodName) prog_2_method_8_code 3 (some .boolean) ws ({ frames := 1, cells := 0, slots := 0, locals := 14 } : Room) #[(.ref a1), (.ref a2)] Z h0 (Qrm_eq Z a1 a2 q1 q2 q3 q4 z1 h0 n0) := by
  refine own_body own_pn8 ?_
  intro p e s m below meth c T0 X0 hx hby hml hown hnm hret hlk hZ e0
  have N0 := Fr.nil n0
  refine own_st (fun t k => castTop (own_ef_rm_eq m a1 a2) k) ?_
  show own_Go p.tables e below (T0.setTop (mkF m 0 #[.val (.ref a1), .val (.ref a2), .unset] [])) _
  refine own_aloadN X0 hx hby own_d8_0 (pc' := 1) rfl rfl rfl ?_
  refine own_instY X0 hx hby own_d8_1 (pc' := 4) rfl hZ hown (hw _ (List.mem_of_getElem? (i := 4) rfl)) e0 (Ins.self E_a2) ?_
  intro T13 X13 e13
  refine own_ifNo X13 hx hby own_d8_4 (pc' := 7) rfl (by decide) ?_
  refine own_aloadN X13 hx hby own_d8_7 (pc' := 8) rfl rfl rfl ?_
  refine own_castY X13 hx hby own_d8_8 (pc' := 11) rfl hZ hown (hw _ (List.mem_of_getElem? (i := 4) rfl)) e13 (Ins.self E_a2) ?_
  intro T14 X14 e14
  refine own_astoreN X14 hx hby own_d8_11 (pc' := 12) rfl rfl (Ls' := #[.val (.ref a1), .val (.ref a2), .val (.ref a2)]) rfl ?_
  refine own_goto X14 hx hby own_d8_12 (pc' := 17) (by decide) ?_
  refine own_aloadN X14 hx hby own_d8_17 (pc' := 18) rfl rfl rfl ?_
  refine own_getF X14 hx hby own_d8_18 (pc' := 21) rfl hZ hown (host := "") (Or.inl (hw _ (List.mem_of_getElem? (i := 14) rfl))) Via.refl e14 F0_a1 ?_
  intro T15 X15 e15
  refine own_aloadN X15 hx hby own_d8_21 (pc' := 22) rfl rfl rfl ?_
  refine own_getF X15 hx hby own_d8_22 (pc' := 25) rfl hZ hown (host := "") (Or.inl (hw _ (List.mem_of_getElem? (i := 14) rfl))) Via.refl e15 F0_a2 ?_
  intro T16 X16 e16
  refine own_icmpNo X16 hx hby own_d8_25 (pc' := 28) rfl (by decide) ?_
  refine own_aloadN X16 hx hby own_d8_28 (pc' := 29) rfl rfl rfl ?_
  refine own_getF X16 hx hby own_d8_29 (pc' := 32) rfl hZ hown (host := "") (Or.inl (hw _ (List.mem_of_getElem? (i := 16) rfl))) Via.refl e16 F1_a1 ?_
  intro T17 X17 e17
  refine own_aloadN X17 hx hby own_d8_32 (pc' := 33) rfl rfl rfl ?_
  refine own_getF X17 hx hby own_d8_33 (pc' := 36) rfl hZ hown (host := "") (Or.inl (hw _ (List.mem_of_getElem? (i := 16) rfl))) Via.refl e17 F1_a2 ?_
  intro T18 X18 e18
  refine own_lcmp X18 hx hby own_d8_36 (pc' := 37) rfl ?_
  by_cases hc37 : q1 = q3
  · skip
    refine own_ifNo X18 hx hby own_d8_37 (pc' := 40) rfl (teq ((lw_eq q1 q3).mpr hc37)).2 ?_
    refine own_aloadN X18 hx hby own_d8_40 (pc' := 41) rfl rfl rfl ?_
    refine own_getF X18 hx hby own_d8_41 (pc' := 44) rfl hZ hown (host := "") (Or.inl (hw _ (List.mem_of_getElem? (i := 18) rfl))) Via.refl e18 F2_a1 ?_
    intro T19 X19 e19
    refine own_aloadN X19 hx hby own_d8_44 (pc' := 45) rfl rfl rfl ?_
    refine own_getF X19 hx hby own_d8_45 (pc' := 48) rfl hZ hown (host := "") (Or.inl (hw _ (List.mem_of_getElem? (i := 18) rfl))) Via.refl e19 F2_a2 ?_
    intro T20 X20 e20
    refine own_lcmp X20 hx hby own_d8_48 (pc' := 49) rfl ?_
    by_cases hc49 : q2 = q4
    · skip
      refine own_ifNo X20 hx hby own_d8_49 (pc' := 52) rfl (teq ((lw_eq q2 q4).mpr hc49)).2 ?_
      refine own_aloadN X20 hx hby own_d8_52 (pc' := 53) rfl rfl rfl ?_
      refine own_getF X20 hx hby own_d8_53 (pc' := 56) rfl hZ hown (host := "") (Or.inl (hw _ (List.mem_of_getElem? (i := 20) rfl))) Via.refl e20 F3_a1 ?_
      intro T21 X21 e21
      refine own_aloadN X21 hx hby own_d8_56 (pc' := 57) rfl rfl rfl ?_
      refine own_getF X21 hx hby own_d8_57 (pc' := 60) rfl hZ hown (host := "") (Or.inl (hw _ (List.mem_of_getElem? (i := 20) rfl))) Via.refl e21 F3_a2 ?_
      intro T22 X22 e22
      refine own_callV X22 hx hZ (rm_de l Z a0 hw [] z1 h0 n0) hown (hw _ (List.mem_of_getElem? (i := 48) rfl)) (hw _ (List.mem_of_getElem? (i := 49) rfl)) (hw _ (List.mem_of_getElem? (i := 51) rfl)) (hw _ (List.mem_of_getElem? (i := 50) rfl)) (hw _ (List.mem_of_getElem? (i := 52) rfl)) (hw _ (List.mem_of_getElem? (i := 7) rfl)) (by decide) E_z (W := 0) (by decide) (by decide) (by rw [hml]; rfl) (argsL := [(.ref z1)]) (rest := []) rfl (lenOf own_pd1 rfl) rfl (Nat.le_of_eq rfl) (hb hby own_d8_60) e22 (by decide) (by decide) ?_
      intro v23 T23 L23 X23 hQ23
      obtain ⟨hv23, N23q, e23⟩ := hQ23
      subst hv23
      have N23 := Fr.app N0 N23q
      show own_Go p.tables e below (T23.setTop (mkF m 63 #[.val (.ref a1), .val (.ref a2), .val (.ref a2)] [(.int (1 : Int32))])) _
      refine own_ifNo X23 hx hby own_d8_63 (pc' := 66) rfl (by decide) ?_
      refine own_iconst X23 hx hby own_d8_66 (pc' := 67) rfl (z := (1 : Int32)) (by decide) ?_
      refine own_goto X23 hx hby own_d8_67 (pc' := 71) (by decide) ?_
      exact own_retZ (t := .boolean) X23 hx hret (by simp) (hb hby own_d8_71) hlk (by decide) (by decide) ⟨congrArg (fun z => some (Value.int z)) (own_nar1.trans (if_pos ⟨hc37, hc49⟩).symm), N23, e23⟩
    · skip
      refine own_ifYes X20 hx hby own_d8_49 (pc' := 70) (by decide) (feq (fun q => hc49 ((lw_eq q2 q4).mp q))).2 ?_
      refine own_iconst X20 hx hby own_d8_70 (pc' := 71) rfl (z := (0 : Int32)) (by decide) ?_
      exact own_retZ (t := .boolean) X20 hx hret (by simp) (hb hby own_d8_71) hlk (by decide) (by decide) ⟨congrArg (fun z => some (Value.int z)) (own_nar0.trans (if_neg (fun q => hc49 q.2)).symm), N0, e20⟩
  · skip
    refine own_ifYes X18 hx hby own_d8_37 (pc' := 70) (by decide) (feq (fun q => hc37 ((lw_eq q1 q3).mp q))).2 ?_
    refine own_iconst X18 hx hby own_d8_70 (pc' := 71) rfl (z := (0 : Int32)) (by decide) ?_
    exact own_retZ (t := .boolean) X18 hx hret (by simp) (hb hby own_d8_71) hlk (by decide) (by decide) ⟨congrArg (fun z => some (Value.int z)) (own_nar0.trans (if_neg (fun q => hc37 q.1)).symm), N0, e18⟩
theorem own_pd2 : parseMethodDescriptor "(JJ)Lcom/example/inbound_throttle/inboundthrottle/limiter/Decision;" = some ⟨[.long, .long], some (.object "com/example/inbound_throttle/inboundthrottle/limiter/Decision")⟩ := by decide +kernel
theorem own_pd3 : parseMethodDescriptor "()Z" = some ⟨[], some .boolean⟩ := by decide +kernel
theorem own_pd4 : parseMethodDescriptor "()J" = some ⟨[], some .long⟩ := by decide +kernel
theorem own_pd5 : parseMethodDescriptor "()Ljava/time/Duration;" = some ⟨[], some (.object "java/time/Duration")⟩ := by decide +kernel
theorem own_ef_rm0 (m : MethodId) (q1 : Int64) (q2 : Int64) (q3 : Int64) (q4 : Int64) (p5 : Int32) : entryFrame m #[(.long q1), (.long q2), (.long q3), (.long q4), (.int p5)] maxLocals = mkF m 0 #[.val (.long q1), .second, .val (.long q2), .second, .val (.long q3), .second, .val (.long q4), .second, .val (.int p5), .unset, .unset, .unset, .unset, .unset, .unset, .unset, .unset, .unset] [] := by first | (simp [entryFrame, mkF, argsToLocals, Value.category, maxLocals]; done) | rfl
def Qrm0 (Z : State) (q1 : Int64) (q2 : Int64) (q3 : Int64) (q4 : Int64) (p5 : Int32) (z1 : Addr) (h0 : Heap) (n0 : Nat) (v : Option Value) (h : Heap) (L : List Loc) : Prop := v = some (.int (1 : Int32)) ∧ Fr n0 L
set_option maxRecDepth 65536 in
set_option maxHeartbeats 40000000 in
theorem rm0 (l : Launch) (Z : State) (a0 : Array Value) (hw : ∀ d ∈ tables_1, d.before a0 Z = true) (ws : List Jvm.Cond) (q1 : Int64) (q2 : Int64) (q3 : Int64) (q4 : Int64) (p5 : Int32) (z1 : Addr) (h0 : Heap) (n0 : Nat) (O_0 : Old Z n0 h0) (S_Z : Sta Z Z.heap "java/time/Duration" "ZERO" "Ljava/time/Duration;" (.ref z1)) (E_Z : Exa Z Z.heap z1 "java/time/Duration") :
    own_Met l x code maxLocals ret ws room_1 #[(.long q1), (.long q2), (.long q3), (.long q4), (.int p5)] Z h0 (Qrm0 Z q1 q2 q3 q4 p5 z1 h0 n0) := by
  refine own_body own_pn0 ?_
  intro p e s m below meth c T0 X0 hx hby hml hown hnm hret hlk hZ e0
  have N0 := Fr.nil n0
  refine own_st (fun t k => castTop (own_ef_rm0 m q1 q2 q3 q4 p5) k) ?_
  show own_Go p.tables e below (T0.setTop (mkF m 0 #[.val (.long q1), .second, .val (.long q2), .second, .val (.long q3), .second, .val (.long q4), .second, .val (.int p5), .unset, .unset, .unset, .unset, .unset, .unset, .unset, .unset, .unset] [])) _
  have Z0 := own_Z0 O_0
  refine own_iload X0 hx hby at_0 (pc' := 2) rfl rfl ?_
  refine own_iconst X0 hx hby at_2 (pc' := 3) rfl (z := (1 : Int32)) (by decide) ?_
  refine own_iand X0 hx hby at_3 (pc' := 4) rfl rfl ?_
  by_cases hc4 : (p5 &&& (1 : Int32)) = (0 : Int32)
  · skip
    refine own_ifYes X0 hx hby at_4 (pc' := 11) (by decide) (teq hc4).1 ?_
    refine own_lload X0 hx hby at_11 (pc' := 13) rfl rfl ?_
    refine own_lstore X0 hx hby at_13 (pc' := 15) rfl (Ls' := #[.val (.long q1), .second, .val (.long q2), .second, .val (.long q3), .second, .val (.long q4), .second, .val (.int p5), .val (.long q3), .second, .unset, .unset, .unset, .unset, .unset, .unset, .unset]) rfl ?_
    refine own_iload X0 hx hby at_15 (pc' := 17) rfl rfl ?_
    refine own_iconst X0 hx hby at_17 (pc' := 18) rfl (z := (2 : Int32)) (by decide) ?_
    refine own_iand X0 hx hby at_18 (pc' := 19) rfl rfl ?_
    by_cases hc19 : (p5 &&& (2 : Int32)) = (0 : Int32)
    · skip
      refine own_ifYes X0 hx hby at_19 (pc' := 26) (by decide) (teq hc19).1 ?_
      refine own_lload X0 hx hby at_26 (pc' := 28) rfl rfl ?_
      refine own_lstore X0 hx hby at_28 (pc' := 30) rfl (Ls' := #[.val (.long q1), .second, .val (.long q2), .second, .val (.long q3), .second, .val (.long q4), .second, .val (.int p5), .val (.long q3), .second, .val (.long q4), .second, .unset, .unset, .unset, .unset, .unset]) rfl ?_
      refine own_lloadN X0 hx hby at_30 (pc' := 31) rfl rfl ?_
      refine own_lloadN X0 hx hby at_31 (pc' := 32) rfl rfl ?_
      refine own_callS X0 hx hZ (rm_ad l Z a0 hw [] q1 q2 z1 h0 n0 (O_0) S_Z) hown (hw _ (List.mem_of_getElem? (i := 0) rfl)) (hw _ (List.mem_of_getElem? (i := 1) rfl)) (hw _ (List.mem_of_getElem? (i := 2) rfl)) (hw _ (List.mem_of_getElem? (i := 3) rfl)) (by decide) (W := 0) (by decide) (by decide) (by rw [hml]; rfl) (argsL := [(.long q1), (.long q2)]) (rest := []) rfl (lenOf own_pd2 rfl) rfl (Nat.le_of_eq rfl) (hb hby at_32) e0 (by decide) (by decide) ?_
      intro v24 T24 L24 X24 hQ24
      obtain ⟨b24, hv24, N24q, K24, g24, E24, Fa24, Fb24, Fc24, Fd24⟩ := hQ24
      subst hv24
      have N24 := Fr.app N0 N24q
      show own_Go p.tables e below (T24.setTop (mkF m 35 #[.val (.long q1), .second, .val (.long q2), .second, .val (.long q3), .second, .val (.long q4), .second, .val (.int p5), .val (.long q3), .second, .val (.long q4), .second, .unset, .unset, .unset, .unset, .unset] [(.ref b24)])) _
      refine own_astore X24 hx hby at_35 (pc' := 37) rfl rfl (Ls' := #[.val (.long q1), .second, .val (.long q2), .second, .val (.long q3), .second, .val (.long q4), .second, .val (.int p5), .val (.long q3), .second, .val (.long q4), .second, .val (.ref b24), .unset, .unset, .unset, .unset]) rfl ?_
      refine own_lload X24 hx hby at_37 (pc' := 39) rfl rfl ?_
      refine own_lload X24 hx hby at_39 (pc' := 41) rfl rfl ?_
      refine own_callS X24 hx hZ (rm_ad l Z a0 hw [] q3 q4 z1 T24.heap n0 ((O_0.keep K24 all0)) S_Z) hown (hw _ (List.mem_of_getElem? (i := 0) rfl)) (hw _ (List.mem_of_getElem? (i := 1) rfl)) (hw _ (List.mem_of_getElem? (i := 2) rfl)) (hw _ (List.mem_of_getElem? (i := 3) rfl)) (by decide) (W := 0) (by decide) (by decide) (by rw [hml]; rfl) (argsL := [(.long q3), (.long q4)]) (rest := []) rfl (lenOf own_pd2 rfl) rfl (Nat.le_of_eq rfl) (hb hby at_41) rfl (by decide) (by decide) ?_
      intro v25 T25 L25 X25 hQ25
      obtain ⟨b25, hv25, N25q, K25, g25, E25, Fa25, Fb25, Fc25, Fd25⟩ := hQ25
      subst hv25
      have N25 := Fr.app N24 N25q
      show own_Go p.tables e below (T25.setTop (mkF m 44 #[.val (.long q1), .second, .val (.long q2), .second, .val (.long q3), .second, .val (.long q4), .second, .val (.int p5), .val (.long q3), .second, .val (.long q4), .second, .val (.ref b24), .unset, .unset, .unset, .unset] [(.ref b25)])) _
      refine own_astore X25 hx hby at_44 (pc' := 46) rfl rfl (Ls' := #[.val (.long q1), .second, .val (.long q2), .second, .val (.long q3), .second, .val (.long q4), .second, .val (.int p5), .val (.long q3), .second, .val (.long q4), .second, .val (.ref b24), .val (.ref b25), .unset, .unset, .unset]) rfl ?_
      refine own_aload X25 hx hby at_46 (pc' := 48) rfl rfl rfl ?_
      refine own_callV X25 hx hZ (rm_g0 l Z a0 hw [] b24 T25.heap n0 (Fa24.keep K25 nin0)) hown (hw _ (List.mem_of_getElem? (i := 22) rfl)) (hw _ (List.mem_of_getElem? (i := 23) rfl)) (hw _ (List.mem_of_getElem? (i := 25) rfl)) (hw _ (List.mem_of_getElem? (i := 24) rfl)) (hw _ (List.mem_of_getElem? (i := 26) rfl)) (hw _ (List.mem_of_getElem? (i := 2) rfl)) (by decide) (E24.keep K25) (W := 0) (by decide) (by decide) (by rw [hml]; rfl) (argsL := []) (rest := []) rfl (lenOf own_pd3 rfl) rfl (Nat.le_of_eq rfl) (hb hby at_48) rfl (by decide) (by decide) ?_
      intro v26 T26 L26 X26 hQ26
      obtain ⟨hv26, N26q, e26⟩ := hQ26
      subst hv26
      have N26 := Fr.app N25 N26q
      show own_Go p.tables e below (T26.setTop (mkF m 51 #[.val (.long q1), .second, .val (.long q2), .second, .val (.long q3), .second, .val (.long q4), .second, .val (.int p5), .val (.long q3), .second, .val (.long q4), .second, .val (.ref b24), .val (.ref b25), .unset, .unset, .unset] [(.int (1 : Int32))])) _
      refine own_ifNo X26 hx hby at_51 (pc' := 54) rfl (by decide) ?_
      refine own_aload X26 hx hby at_54 (pc' := 56) rfl rfl rfl ?_
      refine own_callV X26 hx hZ (rm_g1 l Z a0 hw [] b24 q1 T25.heap n0 (Fb24.keep K25 nin0)) hown (hw _ (List.mem_of_getElem? (i := 27) rfl)) (hw _ (List.mem_of_getElem? (i := 28) rfl)) (hw _ (List.mem_of_getElem? (i := 30) rfl)) (hw _ (List.mem_of_getElem? (i := 29) rfl)) (hw _ (List.mem_of_getElem? (i := 31) rfl)) (hw _ (List.mem_of_getElem? (i := 2) rfl)) (by decide) (E24.keep K25) (W := 0) (by decide) (by decide) (by rw [hml]; rfl) (argsL := []) (rest := []) rfl (lenOf own_pd4 rfl) rfl (Nat.le_of_eq rfl) (hb hby at_56) e26 (by decide) (by decide) ?_
      intro v27 T27 L27 X27 hQ27
      obtain ⟨hv27, N27q, e27⟩ := hQ27
      subst hv27
      have N27 := Fr.app N26 N27q
      show own_Go p.tables e below (T27.setTop (mkF m 59 #[.val (.long q1), .second, .val (.long q2), .second, .val (.long q3), .second, .val (.long q4), .second, .val (.int p5), .val (.long q3), .second, .val (.long q4), .second, .val (.ref b24), .val (.ref b25), .unset, .unset, .unset] [(.long q1)])) _
      refine own_lloadN X27 hx hby at_59 (pc' := 60) rfl rfl ?_
      refine own_lcmp X27 hx hby at_60 (pc' := 61) rfl ?_
      refine own_ifNo X27 hx hby at_61 (pc' := 64) rfl (teq ((lw_eq q1 q1).mpr rfl)).2 ?_
      refine own_aload X27 hx hby at_64 (pc' := 66) rfl rfl rfl ?_
      refine own_callV X27 hx hZ (rm_g2 l Z a0 hw [] b24 q2 T25.heap n0 (Fc24.keep K25 nin0)) hown (hw _ (List.mem_of_getElem? (i := 32) rfl)) (hw _ (List.mem_of_getElem? (i := 33) rfl)) (hw _ (List.mem_of_getElem? (i := 35) rfl)) (hw _ (List.mem_of_getElem? (i := 34) rfl)) (hw _ (List.mem_of_getElem? (i := 36) rfl)) (hw _ (List.mem_of_getElem? (i := 2) rfl)) (by decide) (E24.keep K25) (W := 0) (by decide) (by decide) (by rw [hml]; rfl) (argsL := []) (rest := []) rfl (lenOf own_pd4 rfl) rfl (Nat.le_of_eq rfl) (hb hby at_66) e27 (by decide) (by decide) ?_
      intro v28 T28 L28 X28 hQ28
      obtain ⟨hv28, N28q, e28⟩ := hQ28
      subst hv28
      have N28 := Fr.app N27 N28q
      show own_Go p.tables e below (T28.setTop (mkF m 69 #[.val (.long q1), .second, .val (.long q2), .second, .val (.long q3), .second, .val (.long q4), .second, .val (.int p5), .val (.long q3), .second, .val (.long q4), .second, .val (.ref b24), .val (.ref b25), .unset, .unset, .unset] [(.long q2)])) _
      refine own_lloadN X28 hx hby at_69 (pc' := 70) rfl rfl ?_
      refine own_lcmp X28 hx hby at_70 (pc' := 71) rfl ?_
      refine own_ifNo X28 hx hby at_71 (pc' := 74) rfl (teq ((lw_eq q2 q2).mpr rfl)).2 ?_
      refine own_aload X28 hx hby at_74 (pc' := 76) rfl rfl rfl ?_
      refine own_callV X28 hx hZ (rm_g3 l Z a0 hw [] b24 z1 T25.heap n0 (Fd24.keep K25 nin0)) hown (hw _ (List.mem_of_getElem? (i := 37) rfl)) (hw _ (List.mem_of_getElem? (i := 38) rfl)) (hw _ (List.mem_of_getElem? (i := 40) rfl)) (hw _ (List.mem_of_getElem? (i := 39) rfl)) (hw _ (List.mem_of_getElem? (i := 41) rfl)) (hw _ (List.mem_of_getElem? (i := 2) rfl)) (by decide) (E24.keep K25) (W := 0) (by decide) (by decide) (by rw [hml]; rfl) (argsL := []) (rest := []) rfl (lenOf own_pd5 rfl) rfl (Nat.le_of_eq rfl) (hb hby at_76) e28 (by decide) (by decide) ?_
      intro v29 T29 L29 X29 hQ29
      obtain ⟨hv29, N29q, e29⟩ := hQ29
      subst hv29
      have N29 := Fr.app N28 N29q
      show own_Go p.tables e below (T29.setTop (mkF m 79 #[.val (.long q1), .second, .val (.long q2), .second, .val (.long q3), .second, .val (.long q4), .second, .val (.int p5), .val (.long q3), .second, .val (.long q4), .second, .val (.ref b24), .val (.ref b25), .unset, .unset, .unset] [(.ref z1)])) _
      refine own_ifnullNo X29 hx hby at_79 (pc' := 82) rfl ?_
      refine own_iconst X29 hx hby at_82 (pc' := 83) rfl (z := (1 : Int32)) (by decide) ?_
      refine own_goto X29 hx hby at_83 (pc' := 87) (by decide) ?_
      refine own_istore X29 hx hby at_87 (pc' := 89) rfl (Ls' := #[.val (.long q1), .second, .val (.long q2), .second, .val (.long q3), .second, .val (.long q4), .second, .val (.int p5), .val (.long q3), .second, .val (.long q4), .second, .val (.ref b24), .val (.ref b25), .val (.int (1 : Int32)), .unset, .unset]) rfl ?_
      refine own_lload X29 hx hby at_89 (pc' := 91) rfl rfl ?_
      refine own_lloadN X29 hx hby at_91 (pc' := 92) rfl rfl ?_
      refine own_lcmp X29 hx hby at_92 (pc' := 93) rfl ?_
      by_cases hc93 : q3 = q1
      · skip
        refine own_ifNo X29 hx hby at_93 (pc' := 96) rfl (teq ((lw_eq q3 q1).mpr hc93)).2 ?_
        refine own_lload X29 hx hby at_96 (pc' := 98) rfl rfl ?_
        refine own_lloadN X29 hx hby at_98 (pc' := 99) rfl rfl ?_
        refine own_lcmp X29 hx hby at_99 (pc' := 100) rfl ?_
        by_cases hc100 : q4 = q2
        · skip
          refine own_ifNo X29 hx hby at_100 (pc' := 103) rfl (teq ((lw_eq q4 q2).mpr hc100)).2 ?_
          refine own_iconst X29 hx hby at_103 (pc' := 104) rfl (z := (1 : Int32)) (by decide) ?_
          refine own_goto X29 hx hby at_104 (pc' := 108) (by decide) ?_
          refine own_istore X29 hx hby at_108 (pc' := 110) rfl (Ls' := #[.val (.long q1), .second, .val (.long q2), .second, .val (.long q3), .second, .val (.long q4), .second, .val (.int p5), .val (.long q3), .second, .val (.long q4), .second, .val (.ref b24), .val (.ref b25), .val (.int (1 : Int32)), .val (.int (1 : Int32)), .unset]) rfl ?_
          refine own_aload X29 hx hby at_110 (pc' := 112) rfl rfl rfl ?_
          refine own_aload X29 hx hby at_112 (pc' := 114) rfl rfl rfl ?_
          refine own_callV X29 hx hZ (rm_eq l Z a0 hw [] b24 b25 q1 q2 q3 q4 z1 T25.heap n0 ((E24.keep K25)) (E25) (E_Z.ext (((O_0.keep K24 all0).keep K25 all0)).2) (Fa24.keep K25 nin0) (Fb24.keep K25 nin0) (Fc24.keep K25 nin0) (Fd24.keep K25 nin0) Fa25 Fb25 Fc25 Fd25) hown (hw _ (List.mem_of_getElem? (i := 42) rfl)) (hw _ (List.mem_of_getElem? (i := 43) rfl)) (hw _ (List.mem_of_getElem? (i := 45) rfl)) (hw _ (List.mem_of_getElem? (i := 44) rfl)) (hw _ (List.mem_of_getElem? (i := 46) rfl)) (hw _ (List.mem_of_getElem? (i := 2) rfl)) (by decide) (E24.keep K25) (W := 0) (by decide) (by decide) (by rw [hml]; rfl) (argsL := [(.ref b25)]) (rest := []) rfl (lenOf own_pd1 rfl) rfl (Nat.le_of_eq rfl) (hb hby at_114) e29 (by decide) (by decide) ?_
          intro v30 T30 L30 X30 hQ30
          obtain ⟨hv30, N30q, e30⟩ := hQ30
          rw [show (if q1 = q3 ∧ q2 = q4 then (1 : Int32) else 0) = (1 : Int32) from if_pos ⟨hc93.symm, hc100.symm⟩] at hv30
          subst hv30
          have N30 := Fr.app N29 N30q
          show own_Go p.tables e below (T30.setTop (mkF m 117 #[.val (.long q1), .second, .val (.long q2), .second, .val (.long q3), .second, .val (.long q4), .second, .val (.int p5), .val (.long q3), .second, .val (.long q4), .second, .val (.ref b24), .val (.ref b25), .val (.int (1 : Int32)), .val (.int (1 : Int32)), .unset] [(.int (1 : Int32))])) _
          refine own_iload X30 hx hby at_117 (pc' := 119) rfl rfl ?_
          refine own_icmpNo X30 hx hby at_119 (pc' := 122) rfl (by decide) ?_
          refine own_iconst X30 hx hby at_122 (pc' := 123) rfl (z := (1 : Int32)) (by decide) ?_
          refine own_goto X30 hx hby at_123 (pc' := 127) (by decide) ?_
          refine own_istore X30 hx hby at_127 (pc' := 129) rfl (Ls' := #[.val (.long q1), .second, .val (.long q2), .second, .val (.long q3), .second, .val (.long q4), .second, .val (.int p5), .val (.long q3), .second, .val (.long q4), .second, .val (.ref b24), .val (.ref b25), .val (.int (1 : Int32)), .val (.int (1 : Int32)), .val (.int (1 : Int32))]) rfl ?_
          refine own_iload X30 hx hby at_129 (pc' := 131) rfl rfl ?_
          refine own_ifNo X30 hx hby at_131 (pc' := 134) rfl (by decide) ?_
          refine own_iload X30 hx hby at_134 (pc' := 136) rfl rfl ?_
          refine own_ifNo X30 hx hby at_136 (pc' := 139) rfl (by decide) ?_
          refine own_iconst X30 hx hby at_139 (pc' := 140) rfl (z := (1 : Int32)) (by decide) ?_
          refine own_goto X30 hx hby at_140 (pc' := 144) (by decide) ?_
          exact own_retZ (t := .boolean) X30 hx hret (by simp) (hb hby at_144) hlk (by decide) (by decide) ⟨congrArg (fun z => some (Value.int z)) (own_nar1), N30⟩
        · skip
          refine own_ifYes X29 hx hby at_100 (pc' := 107) (by decide) (feq (fun q => hc100 ((lw_eq q4 q2).mp q))).2 ?_
          refine own_iconst X29 hx hby at_107 (pc' := 108) rfl (z := (0 : Int32)) (by decide) ?_
          refine own_istore X29 hx hby at_108 (pc' := 110) rfl (Ls' := #[.val (.long q1), .second, .val (.long q2), .second, .val (.long q3), .second, .val (.long q4), .second, .val (.int p5), .val (.long q3), .second, .val (.long q4), .second, .val (.ref b24), .val (.ref b25), .val (.int (1 : Int32)), .val (.int (0 : Int32)), .unset]) rfl ?_
          refine own_aload X29 hx hby at_110 (pc' := 112) rfl rfl rfl ?_
          refine own_aload X29 hx hby at_112 (pc' := 114) rfl rfl rfl ?_
          refine own_callV X29 hx hZ (rm_eq l Z a0 hw [] b24 b25 q1 q2 q3 q4 z1 T25.heap n0 ((E24.keep K25)) (E25) (E_Z.ext (((O_0.keep K24 all0).keep K25 all0)).2) (Fa24.keep K25 nin0) (Fb24.keep K25 nin0) (Fc24.keep K25 nin0) (Fd24.keep K25 nin0) Fa25 Fb25 Fc25 Fd25) hown (hw _ (List.mem_of_getElem? (i := 42) rfl)) (hw _ (List.mem_of_getElem? (i := 43) rfl)) (hw _ (List.mem_of_getElem? (i := 45) rfl)) (hw _ (List.mem_of_getElem? (i := 44) rfl)) (hw _ (List.mem_of_getElem? (i := 46) rfl)) (hw _ (List.mem_of_getElem? (i := 2) rfl)) (by decide) (E24.keep K25) (W := 0) (by decide) (by decide) (by rw [hml]; rfl) (argsL := [(.ref b25)]) (rest := []) rfl (lenOf own_pd1 rfl) rfl (Nat.le_of_eq rfl) (hb hby at_114) e29 (by decide) (by decide) ?_
          intro v31 T31 L31 X31 hQ31
          obtain ⟨hv31, N31q, e31⟩ := hQ31
          rw [show (if q1 = q3 ∧ q2 = q4 then (1 : Int32) else 0) = (0 : Int32) from if_neg (fun q => hc100 q.2.symm)] at hv31
          subst hv31
          have N31 := Fr.app N29 N31q
          show own_Go p.tables e below (T31.setTop (mkF m 117 #[.val (.long q1), .second, .val (.long q2), .second, .val (.long q3), .second, .val (.long q4), .second, .val (.int p5), .val (.long q3), .second, .val (.long q4), .second, .val (.ref b24), .val (.ref b25), .val (.int (1 : Int32)), .val (.int (0 : Int32)), .unset] [(.int (0 : Int32))])) _
          refine own_iload X31 hx hby at_117 (pc' := 119) rfl rfl ?_
          refine own_icmpNo X31 hx hby at_119 (pc' := 122) rfl (by decide) ?_
          refine own_iconst X31 hx hby at_122 (pc' := 123) rfl (z := (1 : Int32)) (by decide) ?_
          refine own_goto X31 hx hby at_123 (pc' := 127) (by decide) ?_
          refine own_istore X31 hx hby at_127 (pc' := 129) rfl (Ls' := #[.val (.long q1), .second, .val (.long q2), .second, .val (.long q3), .second, .val (.long q4), .second, .val (.int p5), .val (.long q3), .second, .val (.long q4), .second, .val (.ref b24), .val (.ref b25), .val (.int (1 : Int32)), .val (.int (0 : Int32)), .val (.int (1 : Int32))]) rfl ?_
          refine own_iload X31 hx hby at_129 (pc' := 131) rfl rfl ?_
          refine own_ifNo X31 hx hby at_131 (pc' := 134) rfl (by decide) ?_
          refine own_iload X31 hx hby at_134 (pc' := 136) rfl rfl ?_
          refine own_ifNo X31 hx hby at_136 (pc' := 139) rfl (by decide) ?_
          refine own_iconst X31 hx hby at_139 (pc' := 140) rfl (z := (1 : Int32)) (by decide) ?_
          refine own_goto X31 hx hby at_140 (pc' := 144) (by decide) ?_
          exact own_retZ (t := .boolean) X31 hx hret (by simp) (hb hby at_144) hlk (by decide) (by decide) ⟨congrArg (fun z => some (Value.int z)) (own_nar1), N31⟩
      · skip
        refine own_ifYes X29 hx hby at_93 (pc' := 107) (by decide) (feq (fun q => hc93 ((lw_eq q3 q1).mp q))).2 ?_
        refine own_iconst X29 hx hby at_107 (pc' := 108) rfl (z := (0 : Int32)) (by decide) ?_
        refine own_istore X29 hx hby at_108 (pc' := 110) rfl (Ls' := #[.val (.long q1), .second, .val (.long q2), .second, .val (.long q3), .second, .val (.long q4), .second, .val (.int p5), .val (.long q3), .second, .val (.long q4), .second, .val (.ref b24), .val (.ref b25), .val (.int (1 : Int32)), .val (.int (0 : Int32)), .unset]) rfl ?_
        refine own_aload X29 hx hby at_110 (pc' := 112) rfl rfl rfl ?_
        refine own_aload X29 hx hby at_112 (pc' := 114) rfl rfl rfl ?_
        refine own_callV X29 hx hZ (rm_eq l Z a0 hw [] b24 b25 q1 q2 q3 q4 z1 T25.heap n0 ((E24.keep K25)) (E25) (E_Z.ext (((O_0.keep K24 all0).keep K25 all0)).2) (Fa24.keep K25 nin0) (Fb24.keep K25 nin0) (Fc24.keep K25 nin0) (Fd24.keep K25 nin0) Fa25 Fb25 Fc25 Fd25) hown (hw _ (List.mem_of_getElem? (i := 42) rfl)) (hw _ (List.mem_of_getElem? (i := 43) rfl)) (hw _ (List.mem_of_getElem? (i := 45) rfl)) (hw _ (List.mem_of_getElem? (i := 44) rfl)) (hw _ (List.mem_of_getElem? (i := 46) rfl)) (hw _ (List.mem_of_getElem? (i := 2) rfl)) (by decide) (E24.keep K25) (W := 0) (by decide) (by decide) (by rw [hml]; rfl) (argsL := [(.ref b25)]) (rest := []) rfl (lenOf own_pd1 rfl) rfl (Nat.le_of_eq rfl) (hb hby at_114) e29 (by decide) (by decide) ?_
        intro v32 T32 L32 X32 hQ32
        obtain ⟨hv32, N32q, e32⟩ := hQ32
        rw [show (if q1 = q3 ∧ q2 = q4 then (1 : Int32) else 0) = (0 : Int32) from if_neg (fun q => hc93 q.1.symm)] at hv32
        subst hv32
        have N32 := Fr.app N29 N32q
        show own_Go p.tables e below (T32.setTop (mkF m 117 #[.val (.long q1), .second, .val (.long q2), .second, .val (.long q3), .second, .val (.long q4), .second, .val (.int p5), .val (.long q3), .second, .val (.long q4), .second, .val (.ref b24), .val (.ref b25), .val (.int (1 : Int32)), .val (.int (0 : Int32)), .unset] [(.int (0 : Int32))])) _
        refine own_iload X32 hx hby at_117 (pc' := 119) rfl rfl ?_
        refine own_icmpNo X32 hx hby at_119 (pc' := 122) rfl (by decide) ?_
        refine own_iconst X32 hx hby at_122 (pc' := 123) rfl (z := (1 : Int32)) (by decide) ?_
        refine own_goto X32 hx hby at_123 (pc' := 127) (by decide) ?_
        refine own_istore X32 hx hby at_127 (pc' := 129) rfl (Ls' := #[.val (.long q1), .second, .val (.long q2), .second, .val (.long q3), .second, .val (.long q4), .second, .val (.int p5), .val (.long q3), .second, .val (.long q4), .second, .val (.ref b24), .val (.ref b25), .val (.int (1 : Int32)), .val (.int (0 : Int32)), .val (.int (1 : Int32))]) rfl ?_
        refine own_iload X32 hx hby at_129 (pc' := 131) rfl rfl ?_
        refine own_ifNo X32 hx hby at_131 (pc' := 134) rfl (by decide) ?_
        refine own_iload X32 hx hby at_134 (pc' := 136) rfl rfl ?_
        refine own_ifNo X32 hx hby at_136 (pc' := 139) rfl (by decide) ?_
        refine own_iconst X32 hx hby at_139 (pc' := 140) rfl (z := (1 : Int32)) (by decide) ?_
        refine own_goto X32 hx hby at_140 (pc' := 144) (by decide) ?_
        exact own_retZ (t := .boolean) X32 hx hret (by simp) (hb hby at_144) hlk (by decide) (by decide) ⟨congrArg (fun z => some (Value.int z)) (own_nar1), N32⟩
    · skip
      refine own_ifNo X0 hx hby at_19 (pc' := 22) rfl (feq hc19).1 ?_
      refine own_lloadN X0 hx hby at_22 (pc' := 23) rfl rfl ?_
      refine own_goto X0 hx hby at_23 (pc' := 28) (by decide) ?_
      refine own_lstore X0 hx hby at_28 (pc' := 30) rfl (Ls' := #[.val (.long q1), .second, .val (.long q2), .second, .val (.long q3), .second, .val (.long q4), .second, .val (.int p5), .val (.long q3), .second, .val (.long q2), .second, .unset, .unset, .unset, .unset, .unset]) rfl ?_
      refine own_lloadN X0 hx hby at_30 (pc' := 31) rfl rfl ?_
      refine own_lloadN X0 hx hby at_31 (pc' := 32) rfl rfl ?_
      refine own_callS X0 hx hZ (rm_ad l Z a0 hw [] q1 q2 z1 h0 n0 (O_0) S_Z) hown (hw _ (List.mem_of_getElem? (i := 0) rfl)) (hw _ (List.mem_of_getElem? (i := 1) rfl)) (hw _ (List.mem_of_getElem? (i := 2) rfl)) (hw _ (List.mem_of_getElem? (i := 3) rfl)) (by decide) (W := 0) (by decide) (by decide) (by rw [hml]; rfl) (argsL := [(.long q1), (.long q2)]) (rest := []) rfl (lenOf own_pd2 rfl) rfl (Nat.le_of_eq rfl) (hb hby at_32) e0 (by decide) (by decide) ?_
      intro v33 T33 L33 X33 hQ33
      obtain ⟨b33, hv33, N33q, K33, g33, E33, Fa33, Fb33, Fc33, Fd33⟩ := hQ33
      subst hv33
      have N33 := Fr.app N0 N33q
      show own_Go p.tables e below (T33.setTop (mkF m 35 #[.val (.long q1), .second, .val (.long q2), .second, .val (.long q3), .second, .val (.long q4), .second, .val (.int p5), .val (.long q3), .second, .val (.long q2), .second, .unset, .unset, .unset, .unset, .unset] [(.ref b33)])) _
      refine own_astore X33 hx hby at_35 (pc' := 37) rfl rfl (Ls' := #[.val (.long q1), .second, .val (.long q2), .second, .val (.long q3), .second, .val (.long q4), .second, .val (.int p5), .val (.long q3), .second, .val (.long q2), .second, .val (.ref b33), .unset, .unset, .unset, .unset]) rfl ?_
      refine own_lload X33 hx hby at_37 (pc' := 39) rfl rfl ?_
      refine own_lload X33 hx hby at_39 (pc' := 41) rfl rfl ?_
      refine own_callS X33 hx hZ (rm_ad l Z a0 hw [] q3 q2 z1 T33.heap n0 ((O_0.keep K33 all0)) S_Z) hown (hw _ (List.mem_of_getElem? (i := 0) rfl)) (hw _ (List.mem_of_getElem? (i := 1) rfl)) (hw _ (List.mem_of_getElem? (i := 2) rfl)) (hw _ (List.mem_of_getElem? (i := 3) rfl)) (by decide) (W := 0) (by decide) (by decide) (by rw [hml]; rfl) (argsL := [(.long q3), (.long q2)]) (rest := []) rfl (lenOf own_pd2 rfl) rfl (Nat.le_of_eq rfl) (hb hby at_41) rfl (by decide) (by decide) ?_
      intro v34 T34 L34 X34 hQ34
      obtain ⟨b34, hv34, N34q, K34, g34, E34, Fa34, Fb34, Fc34, Fd34⟩ := hQ34
      subst hv34
      have N34 := Fr.app N33 N34q
      show own_Go p.tables e below (T34.setTop (mkF m 44 #[.val (.long q1), .second, .val (.long q2), .second, .val (.long q3), .second, .val (.long q4), .second, .val (.int p5), .val (.long q3), .second, .val (.long q2), .second, .val (.ref b33), .unset, .unset, .unset, .unset] [(.ref b34)])) _
      refine own_astore X34 hx hby at_44 (pc' := 46) rfl rfl (Ls' := #[.val (.long q1), .second, .val (.long q2), .second, .val (.long q3), .second, .val (.long q4), .second, .val (.int p5), .val (.long q3), .second, .val (.long q2), .second, .val (.ref b33), .val (.ref b34), .unset, .unset, .unset]) rfl ?_
      refine own_aload X34 hx hby at_46 (pc' := 48) rfl rfl rfl ?_
      refine own_callV X34 hx hZ (rm_g0 l Z a0 hw [] b33 T34.heap n0 (Fa33.keep K34 nin0)) hown (hw _ (List.mem_of_getElem? (i := 22) rfl)) (hw _ (List.mem_of_getElem? (i := 23) rfl)) (hw _ (List.mem_of_getElem? (i := 25) rfl)) (hw _ (List.mem_of_getElem? (i := 24) rfl)) (hw _ (List.mem_of_getElem? (i := 26) rfl)) (hw _ (List.mem_of_getElem? (i := 2) rfl)) (by decide) (E33.keep K34) (W := 0) (by decide) (by decide) (by rw [hml]; rfl) (argsL := []) (rest := []) rfl (lenOf own_pd3 rfl) rfl (Nat.le_of_eq rfl) (hb hby at_48) rfl (by decide) (by decide) ?_
      intro v35 T35 L35 X35 hQ35
      obtain ⟨hv35, N35q, e35⟩ := hQ35
      subst hv35
      have N35 := Fr.app N34 N35q
      show own_Go p.tables e below (T35.setTop (mkF m 51 #[.val (.long q1), .second, .val (.long q2), .second, .val (.long q3), .second, .val (.long q4), .second, .val (.int p5), .val (.long q3), .second, .val (.long q2), .second, .val (.ref b33), .val (.ref b34), .unset, .unset, .unset] [(.int (1 : Int32))])) _
      refine own_ifNo X35 hx hby at_51 (pc' := 54) rfl (by decide) ?_
      refine own_aload X35 hx hby at_54 (pc' := 56) rfl rfl rfl ?_
      refine own_callV X35 hx hZ (rm_g1 l Z a0 hw [] b33 q1 T34.heap n0 (Fb33.keep K34 nin0)) hown (hw _ (List.mem_of_getElem? (i := 27) rfl)) (hw _ (List.mem_of_getElem? (i := 28) rfl)) (hw _ (List.mem_of_getElem? (i := 30) rfl)) (hw _ (List.mem_of_getElem? (i := 29) rfl)) (hw _ (List.mem_of_getElem? (i := 31) rfl)) (hw _ (List.mem_of_getElem? (i := 2) rfl)) (by decide) (E33.keep K34) (W := 0) (by decide) (by decide) (by rw [hml]; rfl) (argsL := []) (rest := []) rfl (lenOf own_pd4 rfl) rfl (Nat.le_of_eq rfl) (hb hby at_56) e35 (by decide) (by decide) ?_
      intro v36 T36 L36 X36 hQ36
      obtain ⟨hv36, N36q, e36⟩ := hQ36
      subst hv36
      have N36 := Fr.app N35 N36q
      show own_Go p.tables e below (T36.setTop (mkF m 59 #[.val (.long q1), .second, .val (.long q2), .second, .val (.long q3), .second, .val (.long q4), .second, .val (.int p5), .val (.long q3), .second, .val (.long q2), .second, .val (.ref b33), .val (.ref b34), .unset, .unset, .unset] [(.long q1)])) _
      refine own_lloadN X36 hx hby at_59 (pc' := 60) rfl rfl ?_
      refine own_lcmp X36 hx hby at_60 (pc' := 61) rfl ?_
      refine own_ifNo X36 hx hby at_61 (pc' := 64) rfl (teq ((lw_eq q1 q1).mpr rfl)).2 ?_
      refine own_aload X36 hx hby at_64 (pc' := 66) rfl rfl rfl ?_
      refine own_callV X36 hx hZ (rm_g2 l Z a0 hw [] b33 q2 T34.heap n0 (Fc33.keep K34 nin0)) hown (hw _ (List.mem_of_getElem? (i := 32) rfl)) (hw _ (List.mem_of_getElem? (i := 33) rfl)) (hw _ (List.mem_of_getElem? (i := 35) rfl)) (hw _ (List.mem_of_getElem? (i := 34) rfl)) (hw _ (List.mem_of_getElem? (i := 36) rfl)) (hw _ (List.mem_of_getElem? (i := 2) rfl)) (by decide) (E33.keep K34) (W := 0) (by decide) (by decide) (by rw [hml]; rfl) (argsL := []) (rest := []) rfl (lenOf own_pd4 rfl) rfl (Nat.le_of_eq rfl) (hb hby at_66) e36 (by decide) (by decide) ?_
      intro v37 T37 L37 X37 hQ37
      obtain ⟨hv37, N37q, e37⟩ := hQ37
      subst hv37
      have N37 := Fr.app N36 N37q
      show own_Go p.tables e below (T37.setTop (mkF m 69 #[.val (.long q1), .second, .val (.long q2), .second, .val (.long q3), .second, .val (.long q4), .second, .val (.int p5), .val (.long q3), .second, .val (.long q2), .second, .val (.ref b33), .val (.ref b34), .unset, .unset, .unset] [(.long q2)])) _
      refine own_lloadN X37 hx hby at_69 (pc' := 70) rfl rfl ?_
      refine own_lcmp X37 hx hby at_70 (pc' := 71) rfl ?_
      refine own_ifNo X37 hx hby at_71 (pc' := 74) rfl (teq ((lw_eq q2 q2).mpr rfl)).2 ?_
      refine own_aload X37 hx hby at_74 (pc' := 76) rfl rfl rfl ?_
      refine own_callV X37 hx hZ (rm_g3 l Z a0 hw [] b33 z1 T34.heap n0 (Fd33.keep K34 nin0)) hown (hw _ (List.mem_of_getElem? (i := 37) rfl)) (hw _ (List.mem_of_getElem? (i := 38) rfl)) (hw _ (List.mem_of_getElem? (i := 40) rfl)) (hw _ (List.mem_of_getElem? (i := 39) rfl)) (hw _ (List.mem_of_getElem? (i := 41) rfl)) (hw _ (List.mem_of_getElem? (i := 2) rfl)) (by decide) (E33.keep K34) (W := 0) (by decide) (by decide) (by rw [hml]; rfl) (argsL := []) (rest := []) rfl (lenOf own_pd5 rfl) rfl (Nat.le_of_eq rfl) (hb hby at_76) e37 (by decide) (by decide) ?_
      intro v38 T38 L38 X38 hQ38
      obtain ⟨hv38, N38q, e38⟩ := hQ38
      subst hv38
      have N38 := Fr.app N37 N38q
      show own_Go p.tables e below (T38.setTop (mkF m 79 #[.val (.long q1), .second, .val (.long q2), .second, .val (.long q3), .second, .val (.long q4), .second, .val (.int p5), .val (.long q3), .second, .val (.long q2), .second, .val (.ref b33), .val (.ref b34), .unset, .unset, .unset] [(.ref z1)])) _
      refine own_ifnullNo X38 hx hby at_79 (pc' := 82) rfl ?_
      refine own_iconst X38 hx hby at_82 (pc' := 83) rfl (z := (1 : Int32)) (by decide) ?_
      refine own_goto X38 hx hby at_83 (pc' := 87) (by decide) ?_
      refine own_istore X38 hx hby at_87 (pc' := 89) rfl (Ls' := #[.val (.long q1), .second, .val (.long q2), .second, .val (.long q3), .second, .val (.long q4), .second, .val (.int p5), .val (.long q3), .second, .val (.long q2), .second, .val (.ref b33), .val (.ref b34), .val (.int (1 : Int32)), .unset, .unset]) rfl ?_
      refine own_lload X38 hx hby at_89 (pc' := 91) rfl rfl ?_
      refine own_lloadN X38 hx hby at_91 (pc' := 92) rfl rfl ?_
      refine own_lcmp X38 hx hby at_92 (pc' := 93) rfl ?_
      by_cases hc93 : q3 = q1
      · skip
        refine own_ifNo X38 hx hby at_93 (pc' := 96) rfl (teq ((lw_eq q3 q1).mpr hc93)).2 ?_
        refine own_lload X38 hx hby at_96 (pc' := 98) rfl rfl ?_
        refine own_lloadN X38 hx hby at_98 (pc' := 99) rfl rfl ?_
        refine own_lcmp X38 hx hby at_99 (pc' := 100) rfl ?_
        refine own_ifNo X38 hx hby at_100 (pc' := 103) rfl (teq ((lw_eq q2 q2).mpr rfl)).2 ?_
        refine own_iconst X38 hx hby at_103 (pc' := 104) rfl (z := (1 : Int32)) (by decide) ?_
        refine own_goto X38 hx hby at_104 (pc' := 108) (by decide) ?_
        refine own_istore X38 hx hby at_108 (pc' := 110) rfl (Ls' := #[.val (.long q1), .second, .val (.long q2), .second, .val (.long q3), .second, .val (.long q4), .second, .val (.int p5), .val (.long q3), .second, .val (.long q2), .second, .val (.ref b33), .val (.ref b34), .val (.int (1 : Int32)), .val (.int (1 : Int32)), .unset]) rfl ?_
        refine own_aload X38 hx hby at_110 (pc' := 112) rfl rfl rfl ?_
        refine own_aload X38 hx hby at_112 (pc' := 114) rfl rfl rfl ?_
        refine own_callV X38 hx hZ (rm_eq l Z a0 hw [] b33 b34 q1 q2 q3 q2 z1 T34.heap n0 ((E33.keep K34)) (E34) (E_Z.ext (((O_0.keep K33 all0).keep K34 all0)).2) (Fa33.keep K34 nin0) (Fb33.keep K34 nin0) (Fc33.keep K34 nin0) (Fd33.keep K34 nin0) Fa34 Fb34 Fc34 Fd34) hown (hw _ (List.mem_of_getElem? (i := 42) rfl)) (hw _ (List.mem_of_getElem? (i := 43) rfl)) (hw _ (List.mem_of_getElem? (i := 45) rfl)) (hw _ (List.mem_of_getElem? (i := 44) rfl)) (hw _ (List.mem_of_getElem? (i := 46) rfl)) (hw _ (List.mem_of_getElem? (i := 2) rfl)) (by decide) (E33.keep K34) (W := 0) (by decide) (by decide) (by rw [hml]; rfl) (argsL := [(.ref b34)]) (rest := []) rfl (lenOf own_pd1 rfl) rfl (Nat.le_of_eq rfl) (hb hby at_114) e38 (by decide) (by decide) ?_
        intro v39 T39 L39 X39 hQ39
        obtain ⟨hv39, N39q, e39⟩ := hQ39
        rw [show (if q1 = q3 ∧ q2 = q2 then (1 : Int32) else 0) = (1 : Int32) from if_pos ⟨hc93.symm, rfl⟩] at hv39
        subst hv39
        have N39 := Fr.app N38 N39q
        show own_Go p.tables e below (T39.setTop (mkF m 117 #[.val (.long q1), .second, .val (.long q2), .second, .val (.long q3), .second, .val (.long q4), .second, .val (.int p5), .val (.long q3), .second, .val (.long q2), .second, .val (.ref b33), .val (.ref b34), .val (.int (1 : Int32)), .val (.int (1 : Int32)), .unset] [(.int (1 : Int32))])) _
        refine own_iload X39 hx hby at_117 (pc' := 119) rfl rfl ?_
        refine own_icmpNo X39 hx hby at_119 (pc' := 122) rfl (by decide) ?_
        refine own_iconst X39 hx hby at_122 (pc' := 123) rfl (z := (1 : Int32)) (by decide) ?_
        refine own_goto X39 hx hby at_123 (pc' := 127) (by decide) ?_
        refine own_istore X39 hx hby at_127 (pc' := 129) rfl (Ls' := #[.val (.long q1), .second, .val (.long q2), .second, .val (.long q3), .second, .val (.long q4), .second, .val (.int p5), .val (.long q3), .second, .val (.long q2), .second, .val (.ref b33), .val (.ref b34), .val (.int (1 : Int32)), .val (.int (1 : Int32)), .val (.int (1 : Int32))]) rfl ?_
        refine own_iload X39 hx hby at_129 (pc' := 131) rfl rfl ?_
        refine own_ifNo X39 hx hby at_131 (pc' := 134) rfl (by decide) ?_
        refine own_iload X39 hx hby at_134 (pc' := 136) rfl rfl ?_
        refine own_ifNo X39 hx hby at_136 (pc' := 139) rfl (by decide) ?_
        refine own_iconst X39 hx hby at_139 (pc' := 140) rfl (z := (1 : Int32)) (by decide) ?_
        refine own_goto X39 hx hby at_140 (pc' := 144) (by decide) ?_
        exact own_retZ (t := .boolean) X39 hx hret (by simp) (hb hby at_144) hlk (by decide) (by decide) ⟨congrArg (fun z => some (Value.int z)) (own_nar1), N39⟩
      · skip
        refine own_ifYes X38 hx hby at_93 (pc' := 107) (by decide) (feq (fun q => hc93 ((lw_eq q3 q1).mp q))).2 ?_
        refine own_iconst X38 hx hby at_107 (pc' := 108) rfl (z := (0 : Int32)) (by decide) ?_
        refine own_istore X38 hx hby at_108 (pc' := 110) rfl (Ls' := #[.val (.long q1), .second, .val (.long q2), .second, .val (.long q3), .second, .val (.long q4), .second, .val (.int p5), .val (.long q3), .second, .val (.long q2), .second, .val (.ref b33), .val (.ref b34), .val (.int (1 : Int32)), .val (.int (0 : Int32)), .unset]) rfl ?_
        refine own_aload X38 hx hby at_110 (pc' := 112) rfl rfl rfl ?_
        refine own_aload X38 hx hby at_112 (pc' := 114) rfl rfl rfl ?_
        refine own_callV X38 hx hZ (rm_eq l Z a0 hw [] b33 b34 q1 q2 q3 q2 z1 T34.heap n0 ((E33.keep K34)) (E34) (E_Z.ext (((O_0.keep K33 all0).keep K34 all0)).2) (Fa33.keep K34 nin0) (Fb33.keep K34 nin0) (Fc33.keep K34 nin0) (Fd33.keep K34 nin0) Fa34 Fb34 Fc34 Fd34) hown (hw _ (List.mem_of_getElem? (i := 42) rfl)) (hw _ (List.mem_of_getElem? (i := 43) rfl)) (hw _ (List.mem_of_getElem? (i := 45) rfl)) (hw _ (List.mem_of_getElem? (i := 44) rfl)) (hw _ (List.mem_of_getElem? (i := 46) rfl)) (hw _ (List.mem_of_getElem? (i := 2) rfl)) (by decide) (E33.keep K34) (W := 0) (by decide) (by decide) (by rw [hml]; rfl) (argsL := [(.ref b34)]) (rest := []) rfl (lenOf own_pd1 rfl) rfl (Nat.le_of_eq rfl) (hb hby at_114) e38 (by decide) (by decide) ?_
        intro v40 T40 L40 X40 hQ40
        obtain ⟨hv40, N40q, e40⟩ := hQ40
        rw [show (if q1 = q3 ∧ q2 = q2 then (1 : Int32) else 0) = (0 : Int32) from if_neg (fun q => hc93 q.1.symm)] at hv40
        subst hv40
        have N40 := Fr.app N38 N40q
        show own_Go p.tables e below (T40.setTop (mkF m 117 #[.val (.long q1), .second, .val (.long q2), .second, .val (.long q3), .second, .val (.long q4), .second, .val (.int p5), .val (.long q3), .second, .val (.long q2), .second, .val (.ref b33), .val (.ref b34), .val (.int (1 : Int32)), .val (.int (0 : Int32)), .unset] [(.int (0 : Int32))])) _
        refine own_iload X40 hx hby at_117 (pc' := 119) rfl rfl ?_
        refine own_icmpNo X40 hx hby at_119 (pc' := 122) rfl (by decide) ?_
        refine own_iconst X40 hx hby at_122 (pc' := 123) rfl (z := (1 : Int32)) (by decide) ?_
        refine own_goto X40 hx hby at_123 (pc' := 127) (by decide) ?_
        refine own_istore X40 hx hby at_127 (pc' := 129) rfl (Ls' := #[.val (.long q1), .second, .val (.long q2), .second, .val (.long q3), .second, .val (.long q4), .second, .val (.int p5), .val (.long q3), .second, .val (.long q2), .second, .val (.ref b33), .val (.ref b34), .val (.int (1 : Int32)), .val (.int (0 : Int32)), .val (.int (1 : Int32))]) rfl ?_
        refine own_iload X40 hx hby at_129 (pc' := 131) rfl rfl ?_
        refine own_ifNo X40 hx hby at_131 (pc' := 134) rfl (by decide) ?_
        refine own_iload X40 hx hby at_134 (pc' := 136) rfl rfl ?_
        refine own_ifNo X40 hx hby at_136 (pc' := 139) rfl (by decide) ?_
        refine own_iconst X40 hx hby at_139 (pc' := 140) rfl (z := (1 : Int32)) (by decide) ?_
        refine own_goto X40 hx hby at_140 (pc' := 144) (by decide) ?_
        exact own_retZ (t := .boolean) X40 hx hret (by simp) (hb hby at_144) hlk (by decide) (by decide) ⟨congrArg (fun z => some (Value.int z)) (own_nar1), N40⟩
  · skip
    refine own_ifNo X0 hx hby at_4 (pc' := 7) rfl (feq hc4).1 ?_
    refine own_lloadN X0 hx hby at_7 (pc' := 8) rfl rfl ?_
    refine own_goto X0 hx hby at_8 (pc' := 13) (by decide) ?_
    refine own_lstore X0 hx hby at_13 (pc' := 15) rfl (Ls' := #[.val (.long q1), .second, .val (.long q2), .second, .val (.long q3), .second, .val (.long q4), .second, .val (.int p5), .val (.long q1), .second, .unset, .unset, .unset, .unset, .unset, .unset, .unset]) rfl ?_
    refine own_iload X0 hx hby at_15 (pc' := 17) rfl rfl ?_
    refine own_iconst X0 hx hby at_17 (pc' := 18) rfl (z := (2 : Int32)) (by decide) ?_
    refine own_iand X0 hx hby at_18 (pc' := 19) rfl rfl ?_
    by_cases hc19 : (p5 &&& (2 : Int32)) = (0 : Int32)
    · skip
      refine own_ifYes X0 hx hby at_19 (pc' := 26) (by decide) (teq hc19).1 ?_
      refine own_lload X0 hx hby at_26 (pc' := 28) rfl rfl ?_
      refine own_lstore X0 hx hby at_28 (pc' := 30) rfl (Ls' := #[.val (.long q1), .second, .val (.long q2), .second, .val (.long q3), .second, .val (.long q4), .second, .val (.int p5), .val (.long q1), .second, .val (.long q4), .second, .unset, .unset, .unset, .unset, .unset]) rfl ?_
      refine own_lloadN X0 hx hby at_30 (pc' := 31) rfl rfl ?_
      refine own_lloadN X0 hx hby at_31 (pc' := 32) rfl rfl ?_
      refine own_callS X0 hx hZ (rm_ad l Z a0 hw [] q1 q2 z1 h0 n0 (O_0) S_Z) hown (hw _ (List.mem_of_getElem? (i := 0) rfl)) (hw _ (List.mem_of_getElem? (i := 1) rfl)) (hw _ (List.mem_of_getElem? (i := 2) rfl)) (hw _ (List.mem_of_getElem? (i := 3) rfl)) (by decide) (W := 0) (by decide) (by decide) (by rw [hml]; rfl) (argsL := [(.long q1), (.long q2)]) (rest := []) rfl (lenOf own_pd2 rfl) rfl (Nat.le_of_eq rfl) (hb hby at_32) e0 (by decide) (by decide) ?_
      intro v41 T41 L41 X41 hQ41
      obtain ⟨b41, hv41, N41q, K41, g41, E41, Fa41, Fb41, Fc41, Fd41⟩ := hQ41
      subst hv41
      have N41 := Fr.app N0 N41q
      show own_Go p.tables e below (T41.setTop (mkF m 35 #[.val (.long q1), .second, .val (.long q2), .second, .val (.long q3), .second, .val (.long q4), .second, .val (.int p5), .val (.long q1), .second, .val (.long q4), .second, .unset, .unset, .unset, .unset, .unset] [(.ref b41)])) _
      refine own_astore X41 hx hby at_35 (pc' := 37) rfl rfl (Ls' := #[.val (.long q1), .second, .val (.long q2), .second, .val (.long q3), .second, .val (.long q4), .second, .val (.int p5), .val (.long q1), .second, .val (.long q4), .second, .val (.ref b41), .unset, .unset, .unset, .unset]) rfl ?_
      refine own_lload X41 hx hby at_37 (pc' := 39) rfl rfl ?_
      refine own_lload X41 hx hby at_39 (pc' := 41) rfl rfl ?_
      refine own_callS X41 hx hZ (rm_ad l Z a0 hw [] q1 q4 z1 T41.heap n0 ((O_0.keep K41 all0)) S_Z) hown (hw _ (List.mem_of_getElem? (i := 0) rfl)) (hw _ (List.mem_of_getElem? (i := 1) rfl)) (hw _ (List.mem_of_getElem? (i := 2) rfl)) (hw _ (List.mem_of_getElem? (i := 3) rfl)) (by decide) (W := 0) (by decide) (by decide) (by rw [hml]; rfl) (argsL := [(.long q1), (.long q4)]) (rest := []) rfl (lenOf own_pd2 rfl) rfl (Nat.le_of_eq rfl) (hb hby at_41) rfl (by decide) (by decide) ?_
      intro v42 T42 L42 X42 hQ42
      obtain ⟨b42, hv42, N42q, K42, g42, E42, Fa42, Fb42, Fc42, Fd42⟩ := hQ42
      subst hv42
      have N42 := Fr.app N41 N42q
      show own_Go p.tables e below (T42.setTop (mkF m 44 #[.val (.long q1), .second, .val (.long q2), .second, .val (.long q3), .second, .val (.long q4), .second, .val (.int p5), .val (.long q1), .second, .val (.long q4), .second, .val (.ref b41), .unset, .unset, .unset, .unset] [(.ref b42)])) _
      refine own_astore X42 hx hby at_44 (pc' := 46) rfl rfl (Ls' := #[.val (.long q1), .second, .val (.long q2), .second, .val (.long q3), .second, .val (.long q4), .second, .val (.int p5), .val (.long q1), .second, .val (.long q4), .second, .val (.ref b41), .val (.ref b42), .unset, .unset, .unset]) rfl ?_
      refine own_aload X42 hx hby at_46 (pc' := 48) rfl rfl rfl ?_
      refine own_callV X42 hx hZ (rm_g0 l Z a0 hw [] b41 T42.heap n0 (Fa41.keep K42 nin0)) hown (hw _ (List.mem_of_getElem? (i := 22) rfl)) (hw _ (List.mem_of_getElem? (i := 23) rfl)) (hw _ (List.mem_of_getElem? (i := 25) rfl)) (hw _ (List.mem_of_getElem? (i := 24) rfl)) (hw _ (List.mem_of_getElem? (i := 26) rfl)) (hw _ (List.mem_of_getElem? (i := 2) rfl)) (by decide) (E41.keep K42) (W := 0) (by decide) (by decide) (by rw [hml]; rfl) (argsL := []) (rest := []) rfl (lenOf own_pd3 rfl) rfl (Nat.le_of_eq rfl) (hb hby at_48) rfl (by decide) (by decide) ?_
      intro v43 T43 L43 X43 hQ43
      obtain ⟨hv43, N43q, e43⟩ := hQ43
      subst hv43
      have N43 := Fr.app N42 N43q
      show own_Go p.tables e below (T43.setTop (mkF m 51 #[.val (.long q1), .second, .val (.long q2), .second, .val (.long q3), .second, .val (.long q4), .second, .val (.int p5), .val (.long q1), .second, .val (.long q4), .second, .val (.ref b41), .val (.ref b42), .unset, .unset, .unset] [(.int (1 : Int32))])) _
      refine own_ifNo X43 hx hby at_51 (pc' := 54) rfl (by decide) ?_
      refine own_aload X43 hx hby at_54 (pc' := 56) rfl rfl rfl ?_
      refine own_callV X43 hx hZ (rm_g1 l Z a0 hw [] b41 q1 T42.heap n0 (Fb41.keep K42 nin0)) hown (hw _ (List.mem_of_getElem? (i := 27) rfl)) (hw _ (List.mem_of_getElem? (i := 28) rfl)) (hw _ (List.mem_of_getElem? (i := 30) rfl)) (hw _ (List.mem_of_getElem? (i := 29) rfl)) (hw _ (List.mem_of_getElem? (i := 31) rfl)) (hw _ (List.mem_of_getElem? (i := 2) rfl)) (by decide) (E41.keep K42) (W := 0) (by decide) (by decide) (by rw [hml]; rfl) (argsL := []) (rest := []) rfl (lenOf own_pd4 rfl) rfl (Nat.le_of_eq rfl) (hb hby at_56) e43 (by decide) (by decide) ?_
      intro v44 T44 L44 X44 hQ44
      obtain ⟨hv44, N44q, e44⟩ := hQ44
      subst hv44
      have N44 := Fr.app N43 N44q
      show own_Go p.tables e below (T44.setTop (mkF m 59 #[.val (.long q1), .second, .val (.long q2), .second, .val (.long q3), .second, .val (.long q4), .second, .val (.int p5), .val (.long q1), .second, .val (.long q4), .second, .val (.ref b41), .val (.ref b42), .unset, .unset, .unset] [(.long q1)])) _
      refine own_lloadN X44 hx hby at_59 (pc' := 60) rfl rfl ?_
      refine own_lcmp X44 hx hby at_60 (pc' := 61) rfl ?_
      refine own_ifNo X44 hx hby at_61 (pc' := 64) rfl (teq ((lw_eq q1 q1).mpr rfl)).2 ?_
      refine own_aload X44 hx hby at_64 (pc' := 66) rfl rfl rfl ?_
      refine own_callV X44 hx hZ (rm_g2 l Z a0 hw [] b41 q2 T42.heap n0 (Fc41.keep K42 nin0)) hown (hw _ (List.mem_of_getElem? (i := 32) rfl)) (hw _ (List.mem_of_getElem? (i := 33) rfl)) (hw _ (List.mem_of_getElem? (i := 35) rfl)) (hw _ (List.mem_of_getElem? (i := 34) rfl)) (hw _ (List.mem_of_getElem? (i := 36) rfl)) (hw _ (List.mem_of_getElem? (i := 2) rfl)) (by decide) (E41.keep K42) (W := 0) (by decide) (by decide) (by rw [hml]; rfl) (argsL := []) (rest := []) rfl (lenOf own_pd4 rfl) rfl (Nat.le_of_eq rfl) (hb hby at_66) e44 (by decide) (by decide) ?_
      intro v45 T45 L45 X45 hQ45
      obtain ⟨hv45, N45q, e45⟩ := hQ45
      subst hv45
      have N45 := Fr.app N44 N45q
      show own_Go p.tables e below (T45.setTop (mkF m 69 #[.val (.long q1), .second, .val (.long q2), .second, .val (.long q3), .second, .val (.long q4), .second, .val (.int p5), .val (.long q1), .second, .val (.long q4), .second, .val (.ref b41), .val (.ref b42), .unset, .unset, .unset] [(.long q2)])) _
      refine own_lloadN X45 hx hby at_69 (pc' := 70) rfl rfl ?_
      refine own_lcmp X45 hx hby at_70 (pc' := 71) rfl ?_
      refine own_ifNo X45 hx hby at_71 (pc' := 74) rfl (teq ((lw_eq q2 q2).mpr rfl)).2 ?_
      refine own_aload X45 hx hby at_74 (pc' := 76) rfl rfl rfl ?_
      refine own_callV X45 hx hZ (rm_g3 l Z a0 hw [] b41 z1 T42.heap n0 (Fd41.keep K42 nin0)) hown (hw _ (List.mem_of_getElem? (i := 37) rfl)) (hw _ (List.mem_of_getElem? (i := 38) rfl)) (hw _ (List.mem_of_getElem? (i := 40) rfl)) (hw _ (List.mem_of_getElem? (i := 39) rfl)) (hw _ (List.mem_of_getElem? (i := 41) rfl)) (hw _ (List.mem_of_getElem? (i := 2) rfl)) (by decide) (E41.keep K42) (W := 0) (by decide) (by decide) (by rw [hml]; rfl) (argsL := []) (rest := []) rfl (lenOf own_pd5 rfl) rfl (Nat.le_of_eq rfl) (hb hby at_76) e45 (by decide) (by decide) ?_
      intro v46 T46 L46 X46 hQ46
      obtain ⟨hv46, N46q, e46⟩ := hQ46
      subst hv46
      have N46 := Fr.app N45 N46q
      show own_Go p.tables e below (T46.setTop (mkF m 79 #[.val (.long q1), .second, .val (.long q2), .second, .val (.long q3), .second, .val (.long q4), .second, .val (.int p5), .val (.long q1), .second, .val (.long q4), .second, .val (.ref b41), .val (.ref b42), .unset, .unset, .unset] [(.ref z1)])) _
      refine own_ifnullNo X46 hx hby at_79 (pc' := 82) rfl ?_
      refine own_iconst X46 hx hby at_82 (pc' := 83) rfl (z := (1 : Int32)) (by decide) ?_
      refine own_goto X46 hx hby at_83 (pc' := 87) (by decide) ?_
      refine own_istore X46 hx hby at_87 (pc' := 89) rfl (Ls' := #[.val (.long q1), .second, .val (.long q2), .second, .val (.long q3), .second, .val (.long q4), .second, .val (.int p5), .val (.long q1), .second, .val (.long q4), .second, .val (.ref b41), .val (.ref b42), .val (.int (1 : Int32)), .unset, .unset]) rfl ?_
      refine own_lload X46 hx hby at_89 (pc' := 91) rfl rfl ?_
      refine own_lloadN X46 hx hby at_91 (pc' := 92) rfl rfl ?_
      refine own_lcmp X46 hx hby at_92 (pc' := 93) rfl ?_
      refine own_ifNo X46 hx hby at_93 (pc' := 96) rfl (teq ((lw_eq q1 q1).mpr rfl)).2 ?_
      refine own_lload X46 hx hby at_96 (pc' := 98) rfl rfl ?_
      refine own_lloadN X46 hx hby at_98 (pc' := 99) rfl rfl ?_
      refine own_lcmp X46 hx hby at_99 (pc' := 100) rfl ?_
      by_cases hc100 : q4 = q2
      · skip
        refine own_ifNo X46 hx hby at_100 (pc' := 103) rfl (teq ((lw_eq q4 q2).mpr hc100)).2 ?_
        refine own_iconst X46 hx hby at_103 (pc' := 104) rfl (z := (1 : Int32)) (by decide) ?_
        refine own_goto X46 hx hby at_104 (pc' := 108) (by decide) ?_
        refine own_istore X46 hx hby at_108 (pc' := 110) rfl (Ls' := #[.val (.long q1), .second, .val (.long q2), .second, .val (.long q3), .second, .val (.long q4), .second, .val (.int p5), .val (.long q1), .second, .val (.long q4), .second, .val (.ref b41), .val (.ref b42), .val (.int (1 : Int32)), .val (.int (1 : Int32)), .unset]) rfl ?_
        refine own_aload X46 hx hby at_110 (pc' := 112) rfl rfl rfl ?_
        refine own_aload X46 hx hby at_112 (pc' := 114) rfl rfl rfl ?_
        refine own_callV X46 hx hZ (rm_eq l Z a0 hw [] b41 b42 q1 q2 q1 q4 z1 T42.heap n0 ((E41.keep K42)) (E42) (E_Z.ext (((O_0.keep K41 all0).keep K42 all0)).2) (Fa41.keep K42 nin0) (Fb41.keep K42 nin0) (Fc41.keep K42 nin0) (Fd41.keep K42 nin0) Fa42 Fb42 Fc42 Fd42) hown (hw _ (List.mem_of_getElem? (i := 42) rfl)) (hw _ (List.mem_of_getElem? (i := 43) rfl)) (hw _ (List.mem_of_getElem? (i := 45) rfl)) (hw _ (List.mem_of_getElem? (i := 44) rfl)) (hw _ (List.mem_of_getElem? (i := 46) rfl)) (hw _ (List.mem_of_getElem? (i := 2) rfl)) (by decide) (E41.keep K42) (W := 0) (by decide) (by decide) (by rw [hml]; rfl) (argsL := [(.ref b42)]) (rest := []) rfl (lenOf own_pd1 rfl) rfl (Nat.le_of_eq rfl) (hb hby at_114) e46 (by decide) (by decide) ?_
        intro v47 T47 L47 X47 hQ47
        obtain ⟨hv47, N47q, e47⟩ := hQ47
        rw [show (if q1 = q1 ∧ q2 = q4 then (1 : Int32) else 0) = (1 : Int32) from if_pos ⟨rfl, hc100.symm⟩] at hv47
        subst hv47
        have N47 := Fr.app N46 N47q
        show own_Go p.tables e below (T47.setTop (mkF m 117 #[.val (.long q1), .second, .val (.long q2), .second, .val (.long q3), .second, .val (.long q4), .second, .val (.int p5), .val (.long q1), .second, .val (.long q4), .second, .val (.ref b41), .val (.ref b42), .val (.int (1 : Int32)), .val (.int (1 : Int32)), .unset] [(.int (1 : Int32))])) _
        refine own_iload X47 hx hby at_117 (pc' := 119) rfl rfl ?_
        refine own_icmpNo X47 hx hby at_119 (pc' := 122) rfl (by decide) ?_
        refine own_iconst X47 hx hby at_122 (pc' := 123) rfl (z := (1 : Int32)) (by decide) ?_
        refine own_goto X47 hx hby at_123 (pc' := 127) (by decide) ?_
        refine own_istore X47 hx hby at_127 (pc' := 129) rfl (Ls' := #[.val (.long q1), .second, .val (.long q2), .second, .val (.long q3), .second, .val (.long q4), .second, .val (.int p5), .val (.long q1), .second, .val (.long q4), .second, .val (.ref b41), .val (.ref b42), .val (.int (1 : Int32)), .val (.int (1 : Int32)), .val (.int (1 : Int32))]) rfl ?_
        refine own_iload X47 hx hby at_129 (pc' := 131) rfl rfl ?_
        refine own_ifNo X47 hx hby at_131 (pc' := 134) rfl (by decide) ?_
        refine own_iload X47 hx hby at_134 (pc' := 136) rfl rfl ?_
        refine own_ifNo X47 hx hby at_136 (pc' := 139) rfl (by decide) ?_
        refine own_iconst X47 hx hby at_139 (pc' := 140) rfl (z := (1 : Int32)) (by decide) ?_
        refine own_goto X47 hx hby at_140 (pc' := 144) (by decide) ?_
        exact own_retZ (t := .boolean) X47 hx hret (by simp) (hb hby at_144) hlk (by decide) (by decide) ⟨congrArg (fun z => some (Value.int z)) (own_nar1), N47⟩
      · skip
        refine own_ifYes X46 hx hby at_100 (pc' := 107) (by decide) (feq (fun q => hc100 ((lw_eq q4 q2).mp q))).2 ?_
        refine own_iconst X46 hx hby at_107 (pc' := 108) rfl (z := (0 : Int32)) (by decide) ?_
        refine own_istore X46 hx hby at_108 (pc' := 110) rfl (Ls' := #[.val (.long q1), .second, .val (.long q2), .second, .val (.long q3), .second, .val (.long q4), .second, .val (.int p5), .val (.long q1), .second, .val (.long q4), .second, .val (.ref b41), .val (.ref b42), .val (.int (1 : Int32)), .val (.int (0 : Int32)), .unset]) rfl ?_
        refine own_aload X46 hx hby at_110 (pc' := 112) rfl rfl rfl ?_
        refine own_aload X46 hx hby at_112 (pc' := 114) rfl rfl rfl ?_
        refine own_callV X46 hx hZ (rm_eq l Z a0 hw [] b41 b42 q1 q2 q1 q4 z1 T42.heap n0 ((E41.keep K42)) (E42) (E_Z.ext (((O_0.keep K41 all0).keep K42 all0)).2) (Fa41.keep K42 nin0) (Fb41.keep K42 nin0) (Fc41.keep K42 nin0) (Fd41.keep K42 nin0) Fa42 Fb42 Fc42 Fd42) hown (hw _ (List.mem_of_getElem? (i := 42) rfl)) (hw _ (List.mem_of_getElem? (i := 43) rfl)) (hw _ (List.mem_of_getElem? (i := 45) rfl)) (hw _ (List.mem_of_getElem? (i := 44) rfl)) (hw _ (List.mem_of_getElem? (i := 46) rfl)) (hw _ (List.mem_of_getElem? (i := 2) rfl)) (by decide) (E41.keep K42) (W := 0) (by decide) (by decide) (by rw [hml]; rfl) (argsL := [(.ref b42)]) (rest := []) rfl (lenOf own_pd1 rfl) rfl (Nat.le_of_eq rfl) (hb hby at_114) e46 (by decide) (by decide) ?_
        intro v48 T48 L48 X48 hQ48
        obtain ⟨hv48, N48q, e48⟩ := hQ48
        rw [show (if q1 = q1 ∧ q2 = q4 then (1 : Int32) else 0) = (0 : Int32) from if_neg (fun q => hc100 q.2.symm)] at hv48
        subst hv48
        have N48 := Fr.app N46 N48q
        show own_Go p.tables e below (T48.setTop (mkF m 117 #[.val (.long q1), .second, .val (.long q2), .second, .val (.long q3), .second, .val (.long q4), .second, .val (.int p5), .val (.long q1), .second, .val (.long q4), .second, .val (.ref b41), .val (.ref b42), .val (.int (1 : Int32)), .val (.int (0 : Int32)), .unset] [(.int (0 : Int32))])) _
        refine own_iload X48 hx hby at_117 (pc' := 119) rfl rfl ?_
        refine own_icmpNo X48 hx hby at_119 (pc' := 122) rfl (by decide) ?_
        refine own_iconst X48 hx hby at_122 (pc' := 123) rfl (z := (1 : Int32)) (by decide) ?_
        refine own_goto X48 hx hby at_123 (pc' := 127) (by decide) ?_
        refine own_istore X48 hx hby at_127 (pc' := 129) rfl (Ls' := #[.val (.long q1), .second, .val (.long q2), .second, .val (.long q3), .second, .val (.long q4), .second, .val (.int p5), .val (.long q1), .second, .val (.long q4), .second, .val (.ref b41), .val (.ref b42), .val (.int (1 : Int32)), .val (.int (0 : Int32)), .val (.int (1 : Int32))]) rfl ?_
        refine own_iload X48 hx hby at_129 (pc' := 131) rfl rfl ?_
        refine own_ifNo X48 hx hby at_131 (pc' := 134) rfl (by decide) ?_
        refine own_iload X48 hx hby at_134 (pc' := 136) rfl rfl ?_
        refine own_ifNo X48 hx hby at_136 (pc' := 139) rfl (by decide) ?_
        refine own_iconst X48 hx hby at_139 (pc' := 140) rfl (z := (1 : Int32)) (by decide) ?_
        refine own_goto X48 hx hby at_140 (pc' := 144) (by decide) ?_
        exact own_retZ (t := .boolean) X48 hx hret (by simp) (hb hby at_144) hlk (by decide) (by decide) ⟨congrArg (fun z => some (Value.int z)) (own_nar1), N48⟩
    · skip
      refine own_ifNo X0 hx hby at_19 (pc' := 22) rfl (feq hc19).1 ?_
      refine own_lloadN X0 hx hby at_22 (pc' := 23) rfl rfl ?_
      refine own_goto X0 hx hby at_23 (pc' := 28) (by decide) ?_
      refine own_lstore X0 hx hby at_28 (pc' := 30) rfl (Ls' := #[.val (.long q1), .second, .val (.long q2), .second, .val (.long q3), .second, .val (.long q4), .second, .val (.int p5), .val (.long q1), .second, .val (.long q2), .second, .unset, .unset, .unset, .unset, .unset]) rfl ?_
      refine own_lloadN X0 hx hby at_30 (pc' := 31) rfl rfl ?_
      refine own_lloadN X0 hx hby at_31 (pc' := 32) rfl rfl ?_
      refine own_callS X0 hx hZ (rm_ad l Z a0 hw [] q1 q2 z1 h0 n0 (O_0) S_Z) hown (hw _ (List.mem_of_getElem? (i := 0) rfl)) (hw _ (List.mem_of_getElem? (i := 1) rfl)) (hw _ (List.mem_of_getElem? (i := 2) rfl)) (hw _ (List.mem_of_getElem? (i := 3) rfl)) (by decide) (W := 0) (by decide) (by decide) (by rw [hml]; rfl) (argsL := [(.long q1), (.long q2)]) (rest := []) rfl (lenOf own_pd2 rfl) rfl (Nat.le_of_eq rfl) (hb hby at_32) e0 (by decide) (by decide) ?_
      intro v49 T49 L49 X49 hQ49
      obtain ⟨b49, hv49, N49q, K49, g49, E49, Fa49, Fb49, Fc49, Fd49⟩ := hQ49
      subst hv49
      have N49 := Fr.app N0 N49q
      show own_Go p.tables e below (T49.setTop (mkF m 35 #[.val (.long q1), .second, .val (.long q2), .second, .val (.long q3), .second, .val (.long q4), .second, .val (.int p5), .val (.long q1), .second, .val (.long q2), .second, .unset, .unset, .unset, .unset, .unset] [(.ref b49)])) _
      refine own_astore X49 hx hby at_35 (pc' := 37) rfl rfl (Ls' := #[.val (.long q1), .second, .val (.long q2), .second, .val (.long q3), .second, .val (.long q4), .second, .val (.int p5), .val (.long q1), .second, .val (.long q2), .second, .val (.ref b49), .unset, .unset, .unset, .unset]) rfl ?_
      refine own_lload X49 hx hby at_37 (pc' := 39) rfl rfl ?_
      refine own_lload X49 hx hby at_39 (pc' := 41) rfl rfl ?_
      refine own_callS X49 hx hZ (rm_ad l Z a0 hw [] q1 q2 z1 T49.heap n0 ((O_0.keep K49 all0)) S_Z) hown (hw _ (List.mem_of_getElem? (i := 0) rfl)) (hw _ (List.mem_of_getElem? (i := 1) rfl)) (hw _ (List.mem_of_getElem? (i := 2) rfl)) (hw _ (List.mem_of_getElem? (i := 3) rfl)) (by decide) (W := 0) (by decide) (by decide) (by rw [hml]; rfl) (argsL := [(.long q1), (.long q2)]) (rest := []) rfl (lenOf own_pd2 rfl) rfl (Nat.le_of_eq rfl) (hb hby at_41) rfl (by decide) (by decide) ?_
      intro v50 T50 L50 X50 hQ50
      obtain ⟨b50, hv50, N50q, K50, g50, E50, Fa50, Fb50, Fc50, Fd50⟩ := hQ50
      subst hv50
      have N50 := Fr.app N49 N50q
      show own_Go p.tables e below (T50.setTop (mkF m 44 #[.val (.long q1), .second, .val (.long q2), .second, .val (.long q3), .second, .val (.long q4), .second, .val (.int p5), .val (.long q1), .second, .val (.long q2), .second, .val (.ref b49), .unset, .unset, .unset, .unset] [(.ref b50)])) _
      refine own_astore X50 hx hby at_44 (pc' := 46) rfl rfl (Ls' := #[.val (.long q1), .second, .val (.long q2), .second, .val (.long q3), .second, .val (.long q4), .second, .val (.int p5), .val (.long q1), .second, .val (.long q2), .second, .val (.ref b49), .val (.ref b50), .unset, .unset, .unset]) rfl ?_
      refine own_aload X50 hx hby at_46 (pc' := 48) rfl rfl rfl ?_
      refine own_callV X50 hx hZ (rm_g0 l Z a0 hw [] b49 T50.heap n0 (Fa49.keep K50 nin0)) hown (hw _ (List.mem_of_getElem? (i := 22) rfl)) (hw _ (List.mem_of_getElem? (i := 23) rfl)) (hw _ (List.mem_of_getElem? (i := 25) rfl)) (hw _ (List.mem_of_getElem? (i := 24) rfl)) (hw _ (List.mem_of_getElem? (i := 26) rfl)) (hw _ (List.mem_of_getElem? (i := 2) rfl)) (by decide) (E49.keep K50) (W := 0) (by decide) (by decide) (by rw [hml]; rfl) (argsL := []) (rest := []) rfl (lenOf own_pd3 rfl) rfl (Nat.le_of_eq rfl) (hb hby at_48) rfl (by decide) (by decide) ?_
      intro v51 T51 L51 X51 hQ51
      obtain ⟨hv51, N51q, e51⟩ := hQ51
      subst hv51
      have N51 := Fr.app N50 N51q
      show own_Go p.tables e below (T51.setTop (mkF m 51 #[.val (.long q1), .second, .val (.long q2), .second, .val (.long q3), .second, .val (.long q4), .second, .val (.int p5), .val (.long q1), .second, .val (.long q2), .second, .val (.ref b49), .val (.ref b50), .unset, .unset, .unset] [(.int (1 : Int32))])) _
      refine own_ifNo X51 hx hby at_51 (pc' := 54) rfl (by decide) ?_
      refine own_aload X51 hx hby at_54 (pc' := 56) rfl rfl rfl ?_
      refine own_callV X51 hx hZ (rm_g1 l Z a0 hw [] b49 q1 T50.heap n0 (Fb49.keep K50 nin0)) hown (hw _ (List.mem_of_getElem? (i := 27) rfl)) (hw _ (List.mem_of_getElem? (i := 28) rfl)) (hw _ (List.mem_of_getElem? (i := 30) rfl)) (hw _ (List.mem_of_getElem? (i := 29) rfl)) (hw _ (List.mem_of_getElem? (i := 31) rfl)) (hw _ (List.mem_of_getElem? (i := 2) rfl)) (by decide) (E49.keep K50) (W := 0) (by decide) (by decide) (by rw [hml]; rfl) (argsL := []) (rest := []) rfl (lenOf own_pd4 rfl) rfl (Nat.le_of_eq rfl) (hb hby at_56) e51 (by decide) (by decide) ?_
      intro v52 T52 L52 X52 hQ52
      obtain ⟨hv52, N52q, e52⟩ := hQ52
      subst hv52
      have N52 := Fr.app N51 N52q
      show own_Go p.tables e below (T52.setTop (mkF m 59 #[.val (.long q1), .second, .val (.long q2), .second, .val (.long q3), .second, .val (.long q4), .second, .val (.int p5), .val (.long q1), .second, .val (.long q2), .second, .val (.ref b49), .val (.ref b50), .unset, .unset, .unset] [(.long q1)])) _
      refine own_lloadN X52 hx hby at_59 (pc' := 60) rfl rfl ?_
      refine own_lcmp X52 hx hby at_60 (pc' := 61) rfl ?_
      refine own_ifNo X52 hx hby at_61 (pc' := 64) rfl (teq ((lw_eq q1 q1).mpr rfl)).2 ?_
      refine own_aload X52 hx hby at_64 (pc' := 66) rfl rfl rfl ?_
      refine own_callV X52 hx hZ (rm_g2 l Z a0 hw [] b49 q2 T50.heap n0 (Fc49.keep K50 nin0)) hown (hw _ (List.mem_of_getElem? (i := 32) rfl)) (hw _ (List.mem_of_getElem? (i := 33) rfl)) (hw _ (List.mem_of_getElem? (i := 35) rfl)) (hw _ (List.mem_of_getElem? (i := 34) rfl)) (hw _ (List.mem_of_getElem? (i := 36) rfl)) (hw _ (List.mem_of_getElem? (i := 2) rfl)) (by decide) (E49.keep K50) (W := 0) (by decide) (by decide) (by rw [hml]; rfl) (argsL := []) (rest := []) rfl (lenOf own_pd4 rfl) rfl (Nat.le_of_eq rfl) (hb hby at_66) e52 (by decide) (by decide) ?_
      intro v53 T53 L53 X53 hQ53
      obtain ⟨hv53, N53q, e53⟩ := hQ53
      subst hv53
      have N53 := Fr.app N52 N53q
      show own_Go p.tables e below (T53.setTop (mkF m 69 #[.val (.long q1), .second, .val (.long q2), .second, .val (.long q3), .second, .val (.long q4), .second, .val (.int p5), .val (.long q1), .second, .val (.long q2), .second, .val (.ref b49), .val (.ref b50), .unset, .unset, .unset] [(.long q2)])) _
      refine own_lloadN X53 hx hby at_69 (pc' := 70) rfl rfl ?_
      refine own_lcmp X53 hx hby at_70 (pc' := 71) rfl ?_
      refine own_ifNo X53 hx hby at_71 (pc' := 74) rfl (teq ((lw_eq q2 q2).mpr rfl)).2 ?_
      refine own_aload X53 hx hby at_74 (pc' := 76) rfl rfl rfl ?_
      refine own_callV X53 hx hZ (rm_g3 l Z a0 hw [] b49 z1 T50.heap n0 (Fd49.keep K50 nin0)) hown (hw _ (List.mem_of_getElem? (i := 37) rfl)) (hw _ (List.mem_of_getElem? (i := 38) rfl)) (hw _ (List.mem_of_getElem? (i := 40) rfl)) (hw _ (List.mem_of_getElem? (i := 39) rfl)) (hw _ (List.mem_of_getElem? (i := 41) rfl)) (hw _ (List.mem_of_getElem? (i := 2) rfl)) (by decide) (E49.keep K50) (W := 0) (by decide) (by decide) (by rw [hml]; rfl) (argsL := []) (rest := []) rfl (lenOf own_pd5 rfl) rfl (Nat.le_of_eq rfl) (hb hby at_76) e53 (by decide) (by decide) ?_
      intro v54 T54 L54 X54 hQ54
      obtain ⟨hv54, N54q, e54⟩ := hQ54
      subst hv54
      have N54 := Fr.app N53 N54q
      show own_Go p.tables e below (T54.setTop (mkF m 79 #[.val (.long q1), .second, .val (.long q2), .second, .val (.long q3), .second, .val (.long q4), .second, .val (.int p5), .val (.long q1), .second, .val (.long q2), .second, .val (.ref b49), .val (.ref b50), .unset, .unset, .unset] [(.ref z1)])) _
      refine own_ifnullNo X54 hx hby at_79 (pc' := 82) rfl ?_
      refine own_iconst X54 hx hby at_82 (pc' := 83) rfl (z := (1 : Int32)) (by decide) ?_
      refine own_goto X54 hx hby at_83 (pc' := 87) (by decide) ?_
      refine own_istore X54 hx hby at_87 (pc' := 89) rfl (Ls' := #[.val (.long q1), .second, .val (.long q2), .second, .val (.long q3), .second, .val (.long q4), .second, .val (.int p5), .val (.long q1), .second, .val (.long q2), .second, .val (.ref b49), .val (.ref b50), .val (.int (1 : Int32)), .unset, .unset]) rfl ?_
      refine own_lload X54 hx hby at_89 (pc' := 91) rfl rfl ?_
      refine own_lloadN X54 hx hby at_91 (pc' := 92) rfl rfl ?_
      refine own_lcmp X54 hx hby at_92 (pc' := 93) rfl ?_
      refine own_ifNo X54 hx hby at_93 (pc' := 96) rfl (teq ((lw_eq q1 q1).mpr rfl)).2 ?_
      refine own_lload X54 hx hby at_96 (pc' := 98) rfl rfl ?_
      refine own_lloadN X54 hx hby at_98 (pc' := 99) rfl rfl ?_
      refine own_lcmp X54 hx hby at_99 (pc' := 100) rfl ?_
      refine own_ifNo X54 hx hby at_100 (pc' := 103) rfl (teq ((lw_eq q2 q2).mpr rfl)).2 ?_
      refine own_iconst X54 hx hby at_103 (pc' := 104) rfl (z := (1 : Int32)) (by decide) ?_
      refine own_goto X54 hx hby at_104 (pc' := 108) (by decide) ?_
      refine own_istore X54 hx hby at_108 (pc' := 110) rfl (Ls' := #[.val (.long q1), .second, .val (.long q2), .second, .val (.long q3), .second, .val (.long q4), .second, .val (.int p5), .val (.long q1), .second, .val (.long q2), .second, .val (.ref b49), .val (.ref b50), .val (.int (1 : Int32)), .val (.int (1 : Int32)), .unset]) rfl ?_
      refine own_aload X54 hx hby at_110 (pc' := 112) rfl rfl rfl ?_
      refine own_aload X54 hx hby at_112 (pc' := 114) rfl rfl rfl ?_
      refine own_callV X54 hx hZ (rm_eq l Z a0 hw [] b49 b50 q1 q2 q1 q2 z1 T50.heap n0 ((E49.keep K50)) (E50) (E_Z.ext (((O_0.keep K49 all0).keep K50 all0)).2) (Fa49.keep K50 nin0) (Fb49.keep K50 nin0) (Fc49.keep K50 nin0) (Fd49.keep K50 nin0) Fa50 Fb50 Fc50 Fd50) hown (hw _ (List.mem_of_getElem? (i := 42) rfl)) (hw _ (List.mem_of_getElem? (i := 43) rfl)) (hw _ (List.mem_of_getElem? (i := 45) rfl)) (hw _ (List.mem_of_getElem? (i := 44) rfl)) (hw _ (List.mem_of_getElem? (i := 46) rfl)) (hw _ (List.mem_of_getElem? (i := 2) rfl)) (by decide) (E49.keep K50) (W := 0) (by decide) (by decide) (by rw [hml]; rfl) (argsL := [(.ref b50)]) (rest := []) rfl (lenOf own_pd1 rfl) rfl (Nat.le_of_eq rfl) (hb hby at_114) e54 (by decide) (by decide) ?_
      intro v55 T55 L55 X55 hQ55
      obtain ⟨hv55, N55q, e55⟩ := hQ55
      rw [show (if q1 = q1 ∧ q2 = q2 then (1 : Int32) else 0) = (1 : Int32) from if_pos ⟨rfl, rfl⟩] at hv55
      subst hv55
      have N55 := Fr.app N54 N55q
      show own_Go p.tables e below (T55.setTop (mkF m 117 #[.val (.long q1), .second, .val (.long q2), .second, .val (.long q3), .second, .val (.long q4), .second, .val (.int p5), .val (.long q1), .second, .val (.long q2), .second, .val (.ref b49), .val (.ref b50), .val (.int (1 : Int32)), .val (.int (1 : Int32)), .unset] [(.int (1 : Int32))])) _
      refine own_iload X55 hx hby at_117 (pc' := 119) rfl rfl ?_
      refine own_icmpNo X55 hx hby at_119 (pc' := 122) rfl (by decide) ?_
      refine own_iconst X55 hx hby at_122 (pc' := 123) rfl (z := (1 : Int32)) (by decide) ?_
      refine own_goto X55 hx hby at_123 (pc' := 127) (by decide) ?_
      refine own_istore X55 hx hby at_127 (pc' := 129) rfl (Ls' := #[.val (.long q1), .second, .val (.long q2), .second, .val (.long q3), .second, .val (.long q4), .second, .val (.int p5), .val (.long q1), .second, .val (.long q2), .second, .val (.ref b49), .val (.ref b50), .val (.int (1 : Int32)), .val (.int (1 : Int32)), .val (.int (1 : Int32))]) rfl ?_
      refine own_iload X55 hx hby at_129 (pc' := 131) rfl rfl ?_
      refine own_ifNo X55 hx hby at_131 (pc' := 134) rfl (by decide) ?_
      refine own_iload X55 hx hby at_134 (pc' := 136) rfl rfl ?_
      refine own_ifNo X55 hx hby at_136 (pc' := 139) rfl (by decide) ?_
      refine own_iconst X55 hx hby at_139 (pc' := 140) rfl (z := (1 : Int32)) (by decide) ?_
      refine own_goto X55 hx hby at_140 (pc' := 144) (by decide) ?_
      exact own_retZ (t := .boolean) X55 hx hret (by simp) (hb hby at_144) hlk (by decide) (by decide) ⟨congrArg (fun z => some (Value.int z)) (own_nar1), N55⟩
set_option maxRecDepth 65536 in
set_option maxHeartbeats 40000000 in
theorem comes_1 {Post : Tables → Env → Array Value → State → Outcome → State → Prop} (hpost : ∀ tb e args s v u, (limb_1_1.after args s (.returned v) u = true ∧ limb_1_2.after args s (.returned v) u = true ∧ True) → FrameEnd s (.returned v) u (Jvm.fieldLocs frame_1_writes args s ++ Jvm.arrayLocs frame_1_arrays args s ++ Jvm.staticLocs frame_1_statics s) 16 128 → Post tb e args s (.returned v) u) :
    ArmFor flags0 classFile x code maxLocals ret World_1 tables_1 room_1 Calls_1 rest_1 Pre_1 Post := by
  intro l hfl _ _ p e ha hc hk s m args below hf hA hF happ hP
  obtain ⟨hcalls, hrest, hpre⟩ := hP
  obtain ⟨-, -, -, hnamed, -, -, -, hat⟩ := (Spec.applies_iff hf).mp happ
  obtain ⟨hg, hn⟩ := and_e (Cond.before_iff.mp (show (Jvm.Cond.and given_1 narrow_1).before args s = true from hpre))
  obtain ⟨g56, g57⟩ := and_e hg
  obtain ⟨g58, g59⟩ := and_e g57
  obtain ⟨g60, g61⟩ := and_e g59
  obtain ⟨g62, g63⟩ := and_e g61
  obtain ⟨g64, g65⟩ := and_e g63
  obtain ⟨w0, w1, w2, w3, w4, rfl⟩ : ∃ w0 w1 w2 w3 w4 : Value, args = #[w0, w1, w2, w3, w4] := by
    have hs : args.size = 5 := by simpa [Cond.value, given_1] using g56
    obtain ⟨L⟩ := args
    match L, hs with
    | [w0, w1, w2, w3, w4], _ => exact ⟨w0, w1, w2, w3, w4, rfl⟩
  have hw := fun d (hd : d ∈ tables_1) => atoms_spec (ws := Jvm.Cond.code x code maxLocals ret :: tables_1) hat d (List.mem_cons_of_mem _ hd)
  have hfit : Fit s := fun {y c} hc i hi => by
    obtain ⟨ha, rfl⟩ := Array.getElem?_eq_some_iff.mp hc
    have q := List.all_eq_true.mp ((Array.all_eq_true_iff_forall_mem.mp hF) _ (Array.getElem_mem ha)) i (List.mem_range.mpr hi)
    simpa [Array.getElem?_eq_getElem hi] using q
  obtain ⟨hsets, hown0⟩ := atoms_of _ (rest_1_c_eq ▸ (show rest_1_c.before _ s = true from hrest))
  have hr0 := Cond.before_iff.mp hown0
  obtain ⟨a_Duration_ZERO, ev_Duration_ZERO⟩ := exa_v (Cond.before_iff.mp (hsets _ (List.mem_of_getElem? (i := 2) rfl)))
  have S_Duration_ZERO : Sta s s.heap "java/time/Duration" "ZERO" "Ljava/time/Duration;" (.ref a_Duration_ZERO) := Sta.start ev_Duration_ZERO (Or.inl (hsets _ (List.mem_of_getElem? (i := 1) rfl)))
  have E_Duration_ZERO : Exa s s.heap a_Duration_ZERO "java/time/Duration" := Exa.start ev_Duration_ZERO (Cond.before_iff.mp (hsets _ (List.mem_of_getElem? (i := 2) rfl)))
  obtain ⟨i0, ei0⟩ := isL_v g58
  obtain rfl : w0 = (.long i0) := Option.some.inj ei0
  obtain ⟨i1, ei1⟩ := isL_v g60
  obtain rfl : w1 = (.long i1) := Option.some.inj ei1
  obtain ⟨i2, ei2⟩ := isL_v g62
  obtain rfl : w2 = (.long i2) := Option.some.inj ei2
  obtain ⟨i3, ei3⟩ := isL_v g64
  obtain rfl : w3 = (.long i3) := Option.some.inj ei3
  obtain ⟨i4, ei4⟩ := is_v g65
  obtain rfl : w4 = (.int i4) := Option.some.inj ei4
  obtain ⟨n, o, h1, h2, h3, _, L, rfl, ⟨rfl, N⟩, hq⟩ := rm0 l s _ hw tables_1 i0 i1 i2 i3 i4 a_Duration_ZERO s.heap s.heap.size (Old.start s) S_Duration_ZERO E_Duration_ZERO p e ha hc hk s m _ below hf ((Spec.applies_iff_loose hf).mp happ).1 ⟨rfl, State.Warmed39.refl s, rfl⟩ trivial
  refine ⟨n, _, h1, h2, h3, hpost _ _ _ _ _ _ ⟨Cond.after_iff.mpr rfl, Cond.after_iff.mpr (eq_i res_at (Term.int_eval (1)) rfl), trivial⟩ ⟨hq.1, hq.2.1, (hq.2.2.sift fun y hy => Or.inr (N y hy)).mono (by decide) (by decide)⟩⟩
theorem main_1_1 : Claimed_1_1 := comes_1 fun _ _ _ _ _ _ h hF => ⟨h.1, hF⟩
theorem main_1_2 : Claimed_1_2 := comes_1 fun _ _ _ _ _ _ h hF => ⟨h.2.1, hF⟩
end Jvm.Pilot.@@N@@
namespace Jvm.Pilot.@@N@@
open Jvm Jvm.ClassFile Sem Op Lib Jvm.Free Jvm.Stand Jvm.Pilot.@@N@@.Jvm.D
/-! MADE BY PROGRAM (witnessworld.py) out of the Statement's table words and the real class files: 12 classes; the members and pool entries that the words name. The judged class is class 1, her method 1. -/
namespace start1
open Jvm.ClassFile
def u (s : String) : CpInfo := .utf8 (stringToUtf16 s)
/-- a pool by its gaps: so many unusable entries, then the entry; so many at the end -/
def gap : Nat → List CpInfo → List CpInfo
  | 0, r => r
  | n + 1, r => .unusable :: gap n r
def poolList (es : List (Nat × CpInfo)) (last : Nat) : List CpInfo := es.foldr (fun e r => gap e.1 (e.2 :: r)) (gap last [])
def pool (es : List (Nat × CpInfo)) (last : Nat) : Array CpInfo := ⟨poolList es last⟩
def fileOf (pool : Array CpInfo) (this : Nat) (attrs : Array Attribute := #[]) (ms : Array MethodInfo := #[]) (fl : Nat := 33) (sup : Nat := 0) (ifs : Array Nat := #[]) (fds : Array FieldInfo := #[]) : ClassFile where
  minorVersion := 0
  majorVersion := 65
  constantPool := pool
  accessFlags := fl
  thisClass := this
  superClass := sup
  interfaces := ifs
  fields := fds
  methods := ms
  attributes := attrs
def plain (name : String) (sup : Option ClassId) : Class where
  name := name
  kind := .ordinary
  loader := none
  accessFlags := 33
  super := sup
  interfaces := #[]
  cf := none
  fields := #[]
  methods := #[]
  instanceTypes := #[]
  staticTypes := #[]
  resolved := #[]
  callSites := []
  init := .initialized
  statics := none
  mirror := none

def pool0 : Array CpInfo := pool [(5, u "<init>"), (0, u "()V"), (1, .class_ 10), (1, u "java/lang/Object")] 113

def k0c0 : Code := { maxStack := 0, maxLocals := 1, code := object_method_1_code, exceptionTable := #[], attributes := #[] }
def k0m0 : Method := { name := "<init>", desc := "()V", sig := { parameters := [], returnType := none }, accessFlags := 1, code := some k0c0 }
/-- java/lang/Object -/
def k0 : Class := { plain "java/lang/Object" none with
  accessFlags := 33
  interfaces := #[]
  cf := some (fileOf pool0 8 #[] #[{ accessFlags := 1, nameIndex := 5, descriptorIndex := 6, attributes := #[] }] 33 0 #[] #[])
  fields := #[]
  methods := #[k0m0]
  instanceTypes := #[]
  staticTypes := #[]
  resolved := Array.replicate 124 none
  statics := none }

def pool1 : Array CpInfo := pool [(2, .class_ 4), (1, u "java/lang/Object"), (0, u "<init>"), (0, u "()V"), (0, .methodref 8 9), (0, .class_ 10), (0, .nameAndType 11 12), (0, u "com/example/inbound_throttle/inboundthrottle/limiter/Decision"), (0, u "admitted"), (0, u "(JJ)Lcom/example/inbound_throttle/inboundthrottle/limiter/Decision;"), (0, .methodref 8 14), (0, .nameAndType 11 15), (0, u "()Z"), (0, .methodref 8 17), (0, .nameAndType 18 19), (0, u "limit"), (0, u "()J"), (0, .methodref 8 21), (0, .nameAndType 22 19), (0, u "remaining"), (0, .methodref 8 24), (0, .nameAndType 25 26), (0, u "retryAfter"), (0, u "()Ljava/time/Duration;"), (0, .methodref 8 28), (0, .nameAndType 29 30), (0, u "equals"), (0, u "(Ljava/lang/Object;)Z"), (0, .class_ 32), (0, u "com/example/inbound_throttle/inboundthrottle/limiter/DecisionAdmittedPinLaw"), (2, u "law"), (0, u "(JJJJI)Z")] 3

def k1m0 : Method := { name := "<init>", desc := "()V", sig := { parameters := [], returnType := none }, accessFlags := 2, code := none }
def k1c1 : Code := { maxStack := 4, maxLocals := 18, code := code, exceptionTable := #[], attributes := #[] }
def k1m1 : Method := { name := "law", desc := "(JJJJI)Z", sig := { parameters := [.long, .long, .long, .long, .int], returnType := some .boolean }, accessFlags := 9, code := some k1c1 }
/-- com/example/inbound_throttle/inboundthrottle/limiter/DecisionAdmittedPinLaw -/
def k1 : Class := { plain "com/example/inbound_throttle/inboundthrottle/limiter/DecisionAdmittedPinLaw" (some 0) with
  accessFlags := 49
  interfaces := #[]
  cf := some (fileOf pool1 31 #[] #[{ accessFlags := 2, nameIndex := 5, descriptorIndex := 6, attributes := #[] }, { accessFlags := 9, nameIndex := 35, descriptorIndex := 36, attributes := #[] }] 49 2 #[] #[])
  fields := #[]
  methods := #[k1m0, k1m1]
  instanceTypes := #[]
  staticTypes := #[]
  resolved := Array.replicate 40 none
  statics := none }

def pool2 : Array CpInfo := pool [(1, .methodref 2 3), (0, .class_ 4), (0, .nameAndType 5 6), (0, u "java/lang/Object"), (0, u "<init>"), (0, u "()V"), (0, .fieldref 8 9), (0, .class_ 10), (0, .nameAndType 11 12), (0, u "com/example/inbound_throttle/inboundthrottle/limiter/Decision"), (0, u "admitted"), (0, u "Z"), (0, .fieldref 8 14), (0, .nameAndType 15 16), (0, u "limit"), (0, u "J"), (0, .fieldref 8 18), (0, .nameAndType 19 16), (0, u "remaining"), (0, .fieldref 8 21), (0, .nameAndType 22 23), (0, u "retryAfter"), (0, u "Ljava/time/Duration;"), (0, .fieldref 25 26), (0, .class_ 27), (0, .nameAndType 28 23), (0, u "java/time/Duration"), (0, u "ZERO"), (0, .methodref 8 30), (0, .nameAndType 5 31), (0, u "(ZJJLjava/time/Duration;)V"), (7, .methodref 25 40), (0, .nameAndType 41 42), (0, u "equals"), (0, u "(Ljava/lang/Object;)Z"), (29, u "(JJ)Lcom/example/inbound_throttle/inboundthrottle/limiter/Decision;"), (2, u "()Z"), (0, u "()J"), (0, u "()Ljava/time/Duration;")] 24

def k2c0 : Code := { maxStack := 3, maxLocals := 7, code := prog_2_method_1_code, exceptionTable := #[], attributes := #[] }
def k2m0 : Method := { name := "<init>", desc := "(ZJJLjava/time/Duration;)V", sig := { parameters := [.boolean, .long, .long, (.object "java/time/Duration")], returnType := none }, accessFlags := 2, code := some k2c0 }
def k2c1 : Code := { maxStack := 8, maxLocals := 4, code := prog_2_method_2_code, exceptionTable := #[], attributes := #[] }
def k2m1 : Method := { name := "admitted", desc := "(JJ)Lcom/example/inbound_throttle/inboundthrottle/limiter/Decision;", sig := { parameters := [.long, .long], returnType := some (.object "com/example/inbound_throttle/inboundthrottle/limiter/Decision") }, accessFlags := 9, code := some k2c1 }
def k2c2 : Code := { maxStack := 1, maxLocals := 1, code := prog_2_method_4_code, exceptionTable := #[], attributes := #[] }
def k2m2 : Method := { name := "admitted", desc := "()Z", sig := { parameters := [], returnType := some .boolean }, accessFlags := 1, code := some k2c2 }
def k2c3 : Code := { maxStack := 2, maxLocals := 1, code := prog_2_method_5_code, exceptionTable := #[], attributes := #[] }
def k2m3 : Method := { name := "limit", desc := "()J", sig := { parameters := [], returnType := some .long }, accessFlags := 1, code := some k2c3 }
def k2c4 : Code := { maxStack := 2, maxLocals := 1, code := prog_2_method_6_code, exceptionTable := #[], attributes := #[] }
def k2m4 : Method := { name := "remaining", desc := "()J", sig := { parameters := [], returnType := some .long }, accessFlags := 1, code := some k2c4 }
def k2c5 : Code := { maxStack := 1, maxLocals := 1, code := prog_2_method_7_code, exceptionTable := #[], attributes := #[] }
def k2m5 : Method := { name := "retryAfter", desc := "()Ljava/time/Duration;", sig := { parameters := [], returnType := some (.object "java/time/Duration") }, accessFlags := 1, code := some k2c5 }
def k2c6 : Code := { maxStack := 4, maxLocals := 3, code := prog_2_method_8_code, exceptionTable := #[], attributes := #[] }
def k2m6 : Method := { name := "equals", desc := "(Ljava/lang/Object;)Z", sig := { parameters := [(.object "java/lang/Object")], returnType := some .boolean }, accessFlags := 1, code := some k2c6 }
/-- com/example/inbound_throttle/inboundthrottle/limiter/Decision -/
def k2 : Class := { plain "com/example/inbound_throttle/inboundthrottle/limiter/Decision" (some 0) with
  accessFlags := 33
  interfaces := #[]
  cf := some (fileOf pool2 8 #[] #[{ accessFlags := 2, nameIndex := 5, descriptorIndex := 31, attributes := #[] }, { accessFlags := 9, nameIndex := 11, descriptorIndex := 72, attributes := #[] }, { accessFlags := 1, nameIndex := 11, descriptorIndex := 75, attributes := #[] }, { accessFlags := 1, nameIndex := 15, descriptorIndex := 76, attributes := #[] }, { accessFlags := 1, nameIndex := 19, descriptorIndex := 76, attributes := #[] }, { accessFlags := 1, nameIndex := 22, descriptorIndex := 77, attributes := #[] }, { accessFlags := 1, nameIndex := 41, descriptorIndex := 42, attributes := #[] }] 33 2 #[] #[{ accessFlags := 18, nameIndex := 11, descriptorIndex := 12, attributes := #[] }, { accessFlags := 18, nameIndex := 15, descriptorIndex := 16, attributes := #[] }, { accessFlags := 18, nameIndex := 19, descriptorIndex := 16, attributes := #[] }, { accessFlags := 18, nameIndex := 22, descriptorIndex := 23, attributes := #[] }])
  fields := #[{ name := "admitted", type := .boolean, accessFlags := 18, slot := 0, constantValue := 0 }, { name := "limit", type := .long, accessFlags := 18, slot := 1, constantValue := 0 }, { name := "remaining", type := .long, accessFlags := 18, slot := 2, constantValue := 0 }, { name := "retryAfter", type := (.object "java/time/Duration"), accessFlags := 18, slot := 3, constantValue := 0 }]
  methods := #[k2m0, k2m1, k2m2, k2m3, k2m4, k2m5, k2m6]
  instanceTypes := #[.boolean, .long, .long, (.object "java/time/Duration")]
  staticTypes := #[]
  resolved := Array.replicate 102 none
  statics := none }

def pool3 : Array CpInfo := pool [(1, .class_ 2), (0, u "java/time/temporal/TemporalAmount"), (0, .class_ 4), (0, u "java/lang/Object")] 11

/-- java/time/temporal/TemporalAmount -/
def k3 : Class := { plain "java/time/temporal/TemporalAmount" (some 0) with
  accessFlags := 1537
  interfaces := #[]
  cf := some (fileOf pool3 1 #[] #[] 1537 3 #[] #[])
  fields := #[]
  methods := #[]
  instanceTypes := #[]
  staticTypes := #[]
  resolved := Array.replicate 16 none
  statics := none }

def pool4 : Array CpInfo := pool [(1, .class_ 2), (0, u "java/lang/Comparable"), (0, .class_ 4), (0, u "java/lang/Object")] 7

/-- java/lang/Comparable -/
def k4 : Class := { plain "java/lang/Comparable" (some 0) with
  accessFlags := 1537
  interfaces := #[]
  cf := some (fileOf pool4 1 #[] #[] 1537 3 #[] #[])
  fields := #[]
  methods := #[]
  instanceTypes := #[]
  staticTypes := #[]
  resolved := Array.replicate 12 none
  statics := none }

def pool5 : Array CpInfo := pool [(1, .class_ 2), (0, u "java/io/Serializable"), (0, .class_ 4), (0, u "java/lang/Object")] 2

/-- java/io/Serializable -/
def k5 : Class := { plain "java/io/Serializable" (some 0) with
  accessFlags := 1537
  interfaces := #[]
  cf := some (fileOf pool5 1 #[] #[] 1537 3 #[] #[])
  fields := #[]
  methods := #[]
  instanceTypes := #[]
  staticTypes := #[]
  resolved := Array.replicate 7 none
  statics := none }

def pool6 : Array CpInfo := pool [(11, .class_ 13), (1, u "java/time/Duration"), (20, u "ZERO"), (0, u "Ljava/time/Duration;"), (13, .class_ 51), (1, u "java/time/temporal/TemporalAmount"), (27, .class_ 81), (1, u "java/time/Duration$Lazy"), (35, u "seconds"), (101, .class_ 220), (0, u "java/lang/Object"), (2, u "J"), (2, u "nanos"), (0, u "I"), (11, .class_ 241), (1, u "java/time/Duration$DurationUnits"), (27, .class_ 271), (1, u "java/time/Duration$1"), (91, u "BI_NANOS_PER_SECOND"), (0, u "Ljava/math/BigInteger;"), (120, .class_ 486), (0, u "java/lang/Comparable"), (0, .class_ 488), (0, u "java/io/Serializable"), (0, u "serialVersionUID"), (129, u "equals"), (0, u "(Ljava/lang/Object;)Z")] 35

def k6c0 : Code := { maxStack := 4, maxLocals := 3, code := jdk_2316_method_67_code, exceptionTable := #[], attributes := #[] }
def k6m0 : Method := { name := "equals", desc := "(Ljava/lang/Object;)Z", sig := { parameters := [(.object "java/lang/Object")], returnType := some .boolean }, accessFlags := 1, code := some k6c0 }
/-- java/time/Duration -/
def k6 : Class := { plain "java/time/Duration" (some 0) with
  accessFlags := 49
  interfaces := #[3, 4, 5]
  cf := some (fileOf pool6 11 #[.nestMembers #[269, 239, 79]] #[{ accessFlags := 1, nameIndex := 619, descriptorIndex := 620, attributes := #[] }] 49 219 #[49, 485, 487] #[{ accessFlags := 25, nameIndex := 34, descriptorIndex := 35, attributes := #[] }, { accessFlags := 26, nameIndex := 489, descriptorIndex := 223, attributes := #[] }, { accessFlags := 26, nameIndex := 363, descriptorIndex := 364, attributes := #[] }, { accessFlags := 18, nameIndex := 117, descriptorIndex := 223, attributes := #[] }, { accessFlags := 18, nameIndex := 226, descriptorIndex := 227, attributes := #[] }])
  fields := #[{ name := "ZERO", type := (.object "java/time/Duration"), accessFlags := 25, slot := 0, constantValue := 0 }, { name := "serialVersionUID", type := .long, accessFlags := 26, slot := 1, constantValue := 0 }, { name := "BI_NANOS_PER_SECOND", type := (.object "java/math/BigInteger"), accessFlags := 26, slot := 2, constantValue := 0 }, { name := "seconds", type := .long, accessFlags := 18, slot := 0, constantValue := 0 }, { name := "nanos", type := .int, accessFlags := 18, slot := 1, constantValue := 0 }]
  methods := #[k6m0]
  instanceTypes := #[.long, .int]
  staticTypes := #[(.object "java/time/Duration"), .long, (.object "java/math/BigInteger")]
  resolved := Array.replicate 656 none
  statics := some 0 }

def pool7 : Array CpInfo := pool [(1, u "java/lang/Cloneable"), (0, .class_ 1), (0, u "java/lang/Object"), (0, .class_ 3)] 3

/-- java/lang/Cloneable -/
def k7 : Class := { plain "java/lang/Cloneable" (some 0) with
  accessFlags := 1537
  interfaces := #[]
  cf := some (fileOf pool7 2 #[] #[] 1537 4 #[] #[])
  fields := #[]
  methods := #[]
  instanceTypes := #[]
  staticTypes := #[]
  resolved := Array.replicate 8 none
  statics := none }

/-- the primitive byte -/
def k8 : Class := { plain "byte" none with kind := .primitive 'B', accessFlags := 0x411 }
/-- [B -/
def k9 : Class := { plain "[B" (some 0) with kind := .array 8 .byte, interfaces := #[7, 5], accessFlags := 1041 }

/-- the primitive int -/
def k10 : Class := { plain "int" none with kind := .primitive 'I', accessFlags := 0x411 }
/-- [I -/
def k11 : Class := { plain "[I" (some 0) with kind := .array 10 .int, interfaces := #[7, 5], accessFlags := 1041 }

def heap : Heap := #[{ cls := 6, slots := #[.ref 1, .long 0, .null], vm := .statics 6 },
  { cls := 6, slots := #[.long 0, .int 0], vm := .none }]
def classes : Array Class := #[k0, k1, k2, k3, k4, k5, k6, k7, k8, k9, k10, k11]
def interned : List (Array UInt16 × Addr) := []
def slotsUsed : Nat := 5
def theMethod : MethodId := ⟨1, 1⟩
def args0 : Array Value := #[.long 3, .long 1, .long 2, .long 0, .int 1]
def aboutOver (below : List Frame) : State where
  vm := { classes := classes, interned := interned.toArray }
  heap := heap
  slotsUsed := slotsUsed
  threads := #[{ frames := .invoking theMethod args0 :: below }]
def below0 : List Frame := [.native { method := ⟨0, 0⟩, args := #[] }]
def about1 : State := aboutOver below0
def p0 : Program := .bare "" "" ""
def e0 : Env := launch0.env 0 0 0
theorem w_frames : about1.frames = Frame.invoking theMethod args0 :: below0 := rfl
set_option maxRecDepth 65536 in
theorem w_args : argsFit about1.vm theMethod args0 = true := by decide +kernel
set_option maxRecDepth 65536 in
theorem w_heap : heapFits about1 = true := by decide +kernel
set_option maxRecDepth 65536 in
theorem w_runnable : about1.curStatus? = some .runnable := by decide +kernel
set_option maxRecDepth 65536 in
theorem w_alone : about1.alone = true := by decide +kernel
set_option maxRecDepth 65536 in
theorem w_named : about1.methodNamed? x = some theMethod := by decide +kernel
set_option maxRecDepth 65536 in
theorem w_hears : about1.hears theMethod below0 = true := by decide +kernel
set_option maxRecDepth 65536 in
theorem w_ripe : about1.ripe theMethod args0 below0 = true := by decide +kernel
theorem w_running : about1.status = .running := rfl
set_option maxRecDepth 65536 in
theorem w_room : about1.hasRoom e0.platform room_1 = true :=
  launch0.hasRoom_least _ room_1 (by decide +kernel) (by decide +kernel) (by decide +kernel) (by decide +kernel) (by decide +kernel) (by decide +kernel)
theorem allAtoms_all (ts : List Jvm.Cond) (a : Array Jvm.Value) (st : Jvm.State) : (allAtoms ts).before a st = ts.all (fun c => c.before a st) := by
  induction ts with
  | nil => rfl
  | cons c t ih =>
    show (Jvm.Cond.and c (allAtoms t)).before a st = _
    rw [Jvm.Cond.before_and, ih, List.all_cons]
def words1 : List Jvm.Cond := Jvm.Cond.code x code maxLocals ret :: tables_1
/-- a 'code' word, met by the world's own term for the bytes: nothing is compared byte by byte -/
theorem code_word {y : MethodName} {bytes : ByteArray} {mx : Nat} {rt : Option FieldType} {a : Array Value} {s : State} {m : MethodId} {meth : Method} {c : Code} (h1 : s.methodNamed? y = some m) (h2 : s.vm.method? m = some meth) (h3 : meth.code = some c) (h4 : c.code = bytes)
    (h5 : (c.maxLocals == mx && c.exceptionTable.isEmpty && decide (c.maxStack ≤ mostOperands) && decide (meth.sig.returnType = rt) && !meth.locks && decide (parseMethodDescriptor y.desc = some meth.sig)) = true) : (Jvm.Cond.code y bytes mx rt).before a s = true := by
  simp only [Bool.and_eq_true, beq_iff_eq, Bool.not_eq_true', decide_eq_true_eq] at h5
  obtain ⟨⟨⟨⟨⟨g1, g2⟩, g3⟩, g4⟩, g5⟩, g6⟩ := h5
  simp [Cond.before, Cond.holds, Cond.value, h1, h2, h3, h4, g1, g2, g3, g4, g5, g6]
def isCode : Jvm.Cond → Bool
  | .code _ _ _ _ => true
  | _ => false
theorem all_split {L : List Jvm.Cond} {P : Jvm.Cond → Bool} (h1 : L.all (fun c => isCode c || P c) = true) (h2 : ∀ c ∈ L.filter isCode, P c = true) : L.all P = true := by
  refine List.all_eq_true.mpr fun c hc => ?_
  have h := List.all_eq_true.mp h1 c hc
  rcases Bool.eq_false_or_eq_true (isCode c) with hi | hi
  · exact h2 c (List.mem_filter.mpr ⟨hc, hi⟩)
  · simpa [hi] using h
set_option maxRecDepth 65536 in
theorem w_c0 : (Jvm.Cond.code x code maxLocals ret).before args0 about1 = true := code_word (m := ⟨1, 1⟩) (meth := k1m1) (c := k1c1) (by decide +kernel) rfl rfl rfl (by decide +kernel)
set_option maxRecDepth 65536 in
theorem w_c1 : (Jvm.Cond.code ({ cls := "com/example/inbound_throttle/inboundthrottle/limiter/Decision", name := "admitted", desc := "(JJ)Lcom/example/inbound_throttle/inboundthrottle/limiter/Decision;" } : Jvm.MethodName) prog_2_method_2_code (4 : Nat) (Option.some (Jvm.ClassFile.FieldType.object "com/example/inbound_throttle/inboundthrottle/limiter/Decision"))).before args0 about1 = true := code_word (m := ⟨2, 1⟩) (meth := k2m1) (c := k2c1) (by decide +kernel) rfl rfl rfl (by decide +kernel)
set_option maxRecDepth 65536 in
theorem w_c2 : (Jvm.Cond.code ({ cls := "com/example/inbound_throttle/inboundthrottle/limiter/Decision", name := "<init>", desc := "(ZJJLjava/time/Duration;)V" } : Jvm.MethodName) prog_2_method_1_code (7 : Nat) (Option.none : Option Jvm.ClassFile.FieldType)).before args0 about1 = true := code_word (m := ⟨2, 0⟩) (meth := k2m0) (c := k2c0) (by decide +kernel) rfl rfl rfl (by decide +kernel)
set_option maxRecDepth 65536 in
theorem w_c3 : (Jvm.Cond.code ({ cls := "java/lang/Object", name := "<init>", desc := "()V" } : Jvm.MethodName) object_method_1_code (1 : Nat) (Option.none : Option Jvm.ClassFile.FieldType)).before args0 about1 = true := code_word (m := ⟨0, 0⟩) (meth := k0m0) (c := k0c0) (by decide +kernel) rfl rfl rfl (by decide +kernel)
set_option maxRecDepth 65536 in
theorem w_c4 : (Jvm.Cond.code ({ cls := "com/example/inbound_throttle/inboundthrottle/limiter/Decision", name := "admitted", desc := "()Z" } : Jvm.MethodName) prog_2_method_4_code (1 : Nat) (Option.some Jvm.ClassFile.FieldType.boolean)).before args0 about1 = true := code_word (m := ⟨2, 2⟩) (meth := k2m2) (c := k2c2) (by decide +kernel) rfl rfl rfl (by decide +kernel)
set_option maxRecDepth 65536 in
theorem w_c5 : (Jvm.Cond.code ({ cls := "com/example/inbound_throttle/inboundthrottle/limiter/Decision", name := "limit", desc := "()J" } : Jvm.MethodName) prog_2_method_5_code (1 : Nat) (Option.some Jvm.ClassFile.FieldType.long)).before args0 about1 = true := code_word (m := ⟨2, 3⟩) (meth := k2m3) (c := k2c3) (by decide +kernel) rfl rfl rfl (by decide +kernel)
set_option maxRecDepth 65536 in
theorem w_c6 : (Jvm.Cond.code ({ cls := "com/example/inbound_throttle/inboundthrottle/limiter/Decision", name := "remaining", desc := "()J" } : Jvm.MethodName) prog_2_method_6_code (1 : Nat) (Option.some Jvm.ClassFile.FieldType.long)).before args0 about1 = true := code_word (m := ⟨2, 4⟩) (meth := k2m4) (c := k2c4) (by decide +kernel) rfl rfl rfl (by decide +kernel)
set_option maxRecDepth 65536 in
theorem w_c7 : (Jvm.Cond.code ({ cls := "com/example/inbound_throttle/inboundthrottle/limiter/Decision", name := "retryAfter", desc := "()Ljava/time/Duration;" } : Jvm.MethodName) prog_2_method_7_code (1 : Nat) (Option.some (Jvm.ClassFile.FieldType.object "java/time/Duration"))).before args0 about1 = true := code_word (m := ⟨2, 5⟩) (meth := k2m5) (c := k2c5) (by decide +kernel) rfl rfl rfl (by decide +kernel)
set_option maxRecDepth 65536 in
theorem w_c8 : (Jvm.Cond.code ({ cls := "com/example/inbound_throttle/inboundthrottle/limiter/Decision", name := "equals", desc := "(Ljava/lang/Object;)Z" } : Jvm.MethodName) prog_2_method_8_code (3 : Nat) (Option.some Jvm.ClassFile.FieldType.boolean)).before args0 about1 = true := code_word (m := ⟨2, 6⟩) (meth := k2m6) (c := k2c6) (by decide +kernel) rfl rfl rfl (by decide +kernel)
set_option maxRecDepth 65536 in
theorem w_c9 : (Jvm.Cond.code ({ cls := "java/time/Duration", name := "equals", desc := "(Ljava/lang/Object;)Z" } : Jvm.MethodName) jdk_2316_method_67_code (3 : Nat) (Option.some Jvm.ClassFile.FieldType.boolean)).before args0 about1 = true := code_word (m := ⟨6, 0⟩) (meth := k6m0) (c := k6c0) (by decide +kernel) rfl rfl rfl (by decide +kernel)
def codes1 : List Jvm.Cond := [Jvm.Cond.code x code maxLocals ret, Jvm.Cond.code ({ cls := "com/example/inbound_throttle/inboundthrottle/limiter/Decision", name := "admitted", desc := "(JJ)Lcom/example/inbound_throttle/inboundthrottle/limiter/Decision;" } : Jvm.MethodName) prog_2_method_2_code (4 : Nat) (Option.some (Jvm.ClassFile.FieldType.object "com/example/inbound_throttle/inboundthrottle/limiter/Decision")), Jvm.Cond.code ({ cls := "com/example/inbound_throttle/inboundthrottle/limiter/Decision", name := "<init>", desc := "(ZJJLjava/time/Duration;)V" } : Jvm.MethodName) prog_2_method_1_code (7 : Nat) (Option.none : Option Jvm.ClassFile.FieldType), Jvm.Cond.code ({ cls := "java/lang/Object", name := "<init>", desc := "()V" } : Jvm.MethodName) object_method_1_code (1 : Nat) (Option.none : Option Jvm.ClassFile.FieldType), Jvm.Cond.code ({ cls := "com/example/inbound_throttle/inboundthrottle/limiter/Decision", name := "admitted", desc := "()Z" } : Jvm.MethodName) prog_2_method_4_code (1 : Nat) (Option.some Jvm.ClassFile.FieldType.boolean), Jvm.Cond.code ({ cls := "com/example/inbound_throttle/inboundthrottle/limiter/Decision", name := "limit", desc := "()J" } : Jvm.MethodName) prog_2_method_5_code (1 : Nat) (Option.some Jvm.ClassFile.FieldType.long), Jvm.Cond.code ({ cls := "com/example/inbound_throttle/inboundthrottle/limiter/Decision", name := "remaining", desc := "()J" } : Jvm.MethodName) prog_2_method_6_code (1 : Nat) (Option.some Jvm.ClassFile.FieldType.long), Jvm.Cond.code ({ cls := "com/example/inbound_throttle/inboundthrottle/limiter/Decision", name := "retryAfter", desc := "()Ljava/time/Duration;" } : Jvm.MethodName) prog_2_method_7_code (1 : Nat) (Option.some (Jvm.ClassFile.FieldType.object "java/time/Duration")), Jvm.Cond.code ({ cls := "com/example/inbound_throttle/inboundthrottle/limiter/Decision", name := "equals", desc := "(Ljava/lang/Object;)Z" } : Jvm.MethodName) prog_2_method_8_code (3 : Nat) (Option.some Jvm.ClassFile.FieldType.boolean), Jvm.Cond.code ({ cls := "java/time/Duration", name := "equals", desc := "(Ljava/lang/Object;)Z" } : Jvm.MethodName) jdk_2316_method_67_code (3 : Nat) (Option.some Jvm.ClassFile.FieldType.boolean)]
set_option maxRecDepth 65536 in
theorem codes_eq : words1.filter isCode = codes1 := rfl
theorem w_codes : ∀ c ∈ words1.filter isCode, c.before args0 about1 = true := by
  rw [codes_eq]
  intro c hc
  simp only [codes1, List.mem_cons, List.not_mem_nil, or_false] at hc
  rcases hc with rfl | rfl | rfl | rfl | rfl | rfl | rfl | rfl | rfl | rfl
  · exact w_c0
  · exact w_c1
  · exact w_c2
  · exact w_c3
  · exact w_c4
  · exact w_c5
  · exact w_c6
  · exact w_c7
  · exact w_c8
  · exact w_c9
set_option maxRecDepth 65536 in
theorem w_t1 : (words1.take 24).all (fun c => isCode c || c.before args0 about1) = true := by decide +kernel
set_option maxRecDepth 65536 in
theorem w_t2 : ((words1.drop 24).take 24).all (fun c => isCode c || c.before args0 about1) = true := by decide +kernel
set_option maxRecDepth 65536 in
theorem w_t3 : ((words1.drop 24).drop 24).all (fun c => isCode c || c.before args0 about1) = true := by decide +kernel
theorem w_tables : (allAtoms (Jvm.Cond.code x code maxLocals ret :: tables_1)).before args0 about1 = true := by
  rw [allAtoms_all]
  show words1.all (fun c => c.before args0 about1) = true
  refine all_split ?_ w_codes
  rw [← List.take_append_drop 24 words1, List.all_append, w_t1, ← List.take_append_drop 24 (words1.drop 24), List.all_append, w_t2, w_t3]
  rfl
set_option maxRecDepth 65536 in
theorem w_rest : rest_1_c.before args0 about1 = true := by decide +kernel
set_option maxRecDepth 65536 in
theorem w_case : (Jvm.Cond.and given_1 narrow_1).before args0 about1 = true := by decide +kernel
theorem w_applies : (headSpec (Jvm.Cond.code x code maxLocals ret :: tables_1) room_1).applies x e0.platform about1 = true :=
  (Spec.applies_iff w_frames).mpr ⟨w_running, w_runnable, w_alone, w_named, w_hears, w_ripe, w_room, w_tables⟩
theorem atStart : AtStart classFile x code maxLocals ret World_1 tables_1 room_1 Calls_1 rest_1 Pre_1 launch0 p0 e0 about1 theMethod args0 below0 :=
  ⟨lists_1, trivial, launch0.admits_env _ _ _, launch0.least_env, fairChoices_fair.cas, fairChoices_fair.clock, w_frames, w_args, w_heap, w_applies, trivial, w_rest, w_case⟩
end start1
theorem witness_1 : WitnessClaimed_1 := ⟨start1.p0, start1.e0, start1.about1, start1.theMethod, start1.args0, start1.below0, start1.atStart⟩
end Jvm.Pilot.@@N@@
