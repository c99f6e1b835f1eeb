import JvmDerived
import JvmDerived.Pilot.@@N@@Statement
import JvmDerived.Pilot.@@N@@Code
set_option linter.unusedVariables false
set_option linter.unusedSimpArgs false
namespace Jvm.Pilot.@@N@@
open Jvm Jvm.ClassFile Sem Op Lib Jvm.Free Jvm.Stand Jvm.LawKit Jvm.RoadKit Bundle Jvm.Pilot.@@N@@.Jvm.D
/-! own_Go: from the state S the run comes to an end of which R holds; a step is taken ahead of it (own_st), so that a walk can fork wherever it likes. -/
def own_Go (tb : Tables) (e : Env) (below : List Frame) (S : State) (R : Outcome → State → Prop) : Prop := ∃ t o, Steps tb e below S t ∧ t.status = .running ∧ Ended t below o ∧ R o t
theorem own_st {tb : Tables} {e : Env} {below : List Frame} {S S' : State} {R : Outcome → State → Prop} (h : ∀ t, Steps tb e below S' t → Steps tb e below S t) (k : own_Go tb e below S' R) : own_Go tb e below S R := by
  obtain ⟨t, o, h1, h2⟩ := k
  exact ⟨t, o, h t h1, h2⟩
abbrev own_R (s : State) (Q : Option Value → Heap → List Loc → Prop) (k n : Nat) (o : Outcome) (t : State) : Prop := ∃ v L, o = .returned v ∧ Q v t.heap L ∧ FrameEnd s o t L k n
abbrev own_Met (l : Launch) (y : MethodName) (bytes : ByteArray) (maxL : Nat) (rt : Option FieldType) (ws : List Jvm.Cond) (rm : Room) (as' : Array Value) (Z : State) (h0 : Heap) (Q : Option Value → Heap → List Loc → Prop) : Prop :=
  MetFree l y (head1 (Jvm.Cond.code y bytes maxL rt :: ws) rm) (fun a U => a = as' ∧ Z.Warmed39 U.vm ∧ U.heap = h0) (fun _ _ _ _ _ => True) (fun _ U o U' => ∃ v L, o = .returned v ∧ Q v U'.heap L ∧ FrameEnd U o U' L rm.cells rm.slots)
theorem own_body {l : Launch} {y : MethodName} {bytes : ByteArray} {maxL : Nat} {rt : Option FieldType} {ws : List Jvm.Cond} {rm : Room} {as' : Array Value} {Z : State} {h0 : Heap} {Q : Option Value → Heap → List Loc → Prop} (hp : plainFor y = true)
    (hb : ∀ (p : Program) (e : Env) (s : State) (m : MethodId) (below : List Frame) (meth : Method) (c : Code) (T : State), Stand p l e rm s m as' below meth c T [] 0 0 → p.tables.exec = Jvm.exec → c.code = bytes → c.maxLocals = maxL → s.vm.findClass y.cls = some m.cls → meth.name = y.name → meth.sig.returnType = rt → meth.locks = false → Z.Warmed39 s.vm → T.heap = h0 →
      own_Go p.tables e below (T.setTop (entryFrame m as' maxL)) (own_R s Q rm.cells rm.slots)) : own_Met l y bytes maxL rt ws rm as' Z h0 Q := by
  refine MetFree.of_bodySF hp hisR ?_
  intro p e s m args below meth c s₁ Bd hml0 hP hK
  obtain ⟨rfl, hZ, hh⟩ := hP
  exact hb p e s m below meth c s₁ (Stand.of_body Bd) Bd.exec Bd.bytes hml0 (findClass_of_methodNamed Bd.named) (name_of_methodNamed Bd.named Bd.method).1 Bd.returns Bd.notSynchronized hZ (by rw [← hh, Bd.state]; rfl)
section Own
variable {p : Program} {l : Launch} {e : Env} {R : Room} {s : State} {m : MethodId} {args : Array Value} {below : List Frame} {meth : Method} {c : Code} {T : State} {locs : List Loc} {cells slots : Nat} {Z : State} {a0 : Array Value} {h : Heap} {Q : Option Value → Heap → List Loc → Prop} {RR : Outcome → State → Prop}
theorem own_cat {v : Value} (q : v.isRef = true) : v.category = 1 := by cases v <;> simp [Value.isRef, Value.category] at q ⊢
theorem own_eqI {first : State} {o : Option Outcome} {idx : List Nat} {a : Term} {k : Int32} (q : (Jvm.Cond.eq a (.int k)).value args first o s idx = some true) : a.eval args first o idx s = some (.int k) := by
  simp only [Cond.value, Term.eval] at q
  cases ht : a.eval args first o idx s with
  | none => simp [ht] at q
  | some x => cases x <;> simp [ht] at q ⊢ <;> exact q
theorem own_Z0 {n0 : Nat} (O : Old Z n0 h) : n0 ≤ h.size := O.1 ▸ O.2.1
theorem own_leave (X : Stand p l e R s m args below meth c T locs cells slots) (hlk : meth.locks = false) {v : Option Value} (hv : meth.sig.returnType = none → v = none) {S : State} {k n : Nat} (hk : cells ≤ k) (hn : slots ≤ n) (hq : Q v T.heap locs)
    (st : ∀ fs : List Frame, (∀ (f : JFrame) (acts : List Action), f.method = m → f.locked = none → f.entered = [] → (doReturn e (T.setTop f) acts v).1 = T.setFrames fs) → Steps p.tables e below S (T.setFrames fs)) : own_Go p.tables e below S (own_R s Q k n) := by
  obtain ⟨fs, hr, hrun, hended, hW, hsame⟩ := X.leave (v := v) hv hlk
  exact ⟨_, _, st fs hr, hrun, hended, v, locs, rfl, hq, ⟨_, rfl⟩, hW, hsame.mono hk hn⟩
theorem own_retI (X : Stand p l e R s m args below meth c T locs cells slots) (hx : p.tables.exec = Jvm.exec) {pc : Nat} {Ls : Array Slot} {z : Int32} {rest : List Value} (hret : meth.sig.returnType = some .int) (hd : decode c.code pc = .ok (.ireturn, 1)) (hlk : meth.locks = false) {k n : Nat} (hk : cells ≤ k) (hn : slots ≤ n) (hq : Q (some (.int z)) T.heap locs) :
    own_Go p.tables e below (T.setTop (mkF m pc Ls (.int z :: rest))) (own_R s Q k n) := by
  refine own_leave X hlk (fun q => by rw [hret] at q; cases q) hk hn hq fun fs hl => ?_
  have hm' : T.vm.method? m = some meth := X.method'
  have hn : narrow .int (.int z) = .int z := rfl
  show Steps p.tables e below (T.setTop { method := m, pc := pc, locals := Ls, stack := _ :: rest, locked := none }) _
  jvm_step X.here [X.here.top, hx, hd, hm', hret, hn]
  first | (intro acts; rw [hl _ acts rfl rfl rfl]) | rw [hl _ _ rfl rfl rfl]
  exact Steps.refl _
theorem own_retZ (X : Stand p l e R s m args below meth c T locs cells slots) (hx : p.tables.exec = Jvm.exec) {pc : Nat} {Ls : Array Slot} {z : Int32} {t : FieldType} {rest : List Value} (hret : meth.sig.returnType = some t) (ht : t = .boolean ∨ t = .byte ∨ t = .char ∨ t = .short) (hd : decode c.code pc = .ok (.ireturn, 1)) (hlk : meth.locks = false) {k n : Nat} (hk : cells ≤ k) (hn : slots ≤ n) (hq : Q (some (.int (nar t z))) T.heap locs) :
    own_Go p.tables e below (T.setTop (mkF m pc Ls (.int z :: rest))) (own_R s Q k n) :=
  own_leave X hlk (fun q => by rw [hret] at q; cases q) hk hn hq fun fs hl => retN X hx hret ht hd hl
theorem own_retA (X : Stand p l e R s m args below meth c T locs cells slots) (hx : p.tables.exec = Jvm.exec) {pc : Nat} {Ls : Array Slot} {z : Value} {t : FieldType} {rest : List Value} (hret : meth.sig.returnType = some t) (ht : t.isReference = true) (hz : z.isRef = true) (hd : decode c.code pc = .ok (.areturn, 1)) (hlk : meth.locks = false) {k n : Nat} (hk : cells ≤ k) (hn : slots ≤ n) (hq : Q (some z) T.heap locs) :
    own_Go p.tables e below (T.setTop (mkF m pc Ls (z :: rest))) (own_R s Q k n) := by
  refine own_leave X hlk (fun q => by rw [hret] at q; cases q) hk hn hq fun fs hl => ?_
  have hm' : T.vm.method? m = some meth := X.method'
  show Steps p.tables e below (T.setTop { method := m, pc := pc, locals := Ls, stack := _ :: rest, locked := none }) _
  jvm_step X.here [X.here.top, hx, hd, hm', hret, ht, hz]
  first | (intro acts; rw [hl _ acts rfl rfl rfl]) | rw [hl _ _ rfl rfl rfl]
  exact Steps.refl _
theorem own_retJ (X : Stand p l e R s m args below meth c T locs cells slots) (hx : p.tables.exec = Jvm.exec) {pc : Nat} {Ls : Array Slot} {z : Int64} {rest : List Value} (hret : meth.sig.returnType = some .long) (hd : decode c.code pc = .ok (.lreturn, 1)) (hlk : meth.locks = false) {k n : Nat} (hk : cells ≤ k) (hn : slots ≤ n) (hq : Q (some (.long z)) T.heap locs) :
    own_Go p.tables e below (T.setTop (mkF m pc Ls (.long z :: rest))) (own_R s Q k n) := by
  refine own_leave X hlk (fun q => by rw [hret] at q; cases q) hk hn hq fun fs hl => ?_
  have hm' : T.vm.method? m = some meth := X.method'
  show Steps p.tables e below (T.setTop { method := m, pc := pc, locals := Ls, stack := _ :: rest, locked := none }) _
  jvm_step X.here [X.here.top, hx, hd, hm', hret, narrow]
  first | (intro acts; rw [hl _ acts rfl rfl rfl]) | rw [hl _ _ rfl rfl rfl]
  exact Steps.refl _
theorem own_retV (X : Stand p l e R s m args below meth c T locs cells slots) (hx : p.tables.exec = Jvm.exec) {pc : Nat} {Ls : Array Slot} (hret : meth.sig.returnType = none) (hd : decode c.code pc = .ok (.return_, 1)) (hlk : meth.locks = false) {k n : Nat} (hk : cells ≤ k) (hn : slots ≤ n) (hq : Q none T.heap locs) :
    own_Go p.tables e below (T.setTop (mkF m pc Ls [])) (own_R s Q k n) :=
  own_leave X hlk (fun _ => rfl) hk hn hq fun fs hl => X.returnOut hx hret hd hl
theorem own_callS (X : Stand p l e R s m args below meth c T locs cells slots) (hx : p.tables.exec = Jvm.exec) (hZ : Z.Warmed39 s.vm) {y : MethodName} {bytes : ByteArray} {maxL : Nat} {rt : Option FieldType} {rm : Room} {as' : Array Value}
    (hM : own_Met l y bytes maxL rt [] rm as' Z h Q) {own : String} {index : Nat} (hown : s.vm.findClass own = some m.cls) (w1 : (Cond.methodLink own index y).before a0 Z = true) (w2 : (Cond.static y).before a0 Z = true) (w3 : (Cond.initialized y.cls).before a0 Z = true) (w4 : (Cond.code y bytes maxL rt).before a0 Z = true)
    (hy : y.cls ≠ "java/lang/invoke/MethodHandle" ∧ y.cls ≠ "java/lang/invoke/VarHandle") {W : Nat} (hf : rm.frames + 1 ≤ R.frames) (hl : W + (maxL + 11) + rm.locals ≤ R.locals) {pc : Nat} {Ls : Array Slot} (hsz : Ls.size = c.maxLocals) {argsL rest st : List Value} (ha : argsL.toArray = as')
    (hlen : ∀ sig, parseMethodDescriptor y.desc = some sig → argsL.length = sig.parameters.length) (hst : st = argsL.reverse ++ rest) (hW : (rest.map fun v => v.category).sum ≤ W) (hd : decode c.code pc = .ok (.invokestatic index, 3)) (eT : T.heap = h) (hc : cells + rm.cells ≤ R.cells) (hs : slots + rm.slots ≤ R.slots)
    (k : ∀ (v : Option Value) (T' : State) (L : List Loc), Stand p l e R s m args below meth c T' (locs ++ L) (cells + rm.cells) (slots + rm.slots) → Q v T'.heap L → own_Go p.tables e below (T'.setTop (mkF m (pc + 3) Ls (v.toList ++ rest))) RR) :
    own_Go p.tables e below (T.setTop (mkF m pc Ls st)) RR := by
  subst ha
  obtain ⟨v, _, ⟨T', L', k', n'⟩, -, X', ⟨Lc, hQ, l', y', z'⟩, stp⟩ := Jvm.LawKit.callS X hx (y := y) hown (mvT hZ w1) (mvT hZ w2) (mvT hZ w3) (mvT hZ w4) hy (backOf (W := W) hM hZ w4 w3 hf hl) (g := mkF m pc Ls st) rfl hsz (argsL := argsL) (rest := rest) hlen hst (by show 2 * 0 + _ ≤ _; omega) hd (fun _ _ => ⟨rfl, eT, hc, hs⟩)
  dsimp only [Pt.U, Pt.locs, Pt.cells, Pt.slots] at X' l' y' z' stp hQ
  subst l' y' z'
  exact own_st stp (k v T' Lc X' hQ)
theorem own_callV (X : Stand p l e R s m args below meth c T locs cells slots) (hx : p.tables.exec = Jvm.exec) (hZ : Z.Warmed39 s.vm) {y : MethodName} {bytes : ByteArray} {maxL : Nat} {rt : Option FieldType} {rm : Room} {as' : Array Value}
    (hM : own_Met l y bytes maxL rt [] rm as' Z h Q) {own C : String} {index : Nat} (hown : s.vm.findClass own = some m.cls) (w1 : (Cond.methodLink own index y).before a0 Z = true) (w2 : (Cond.declares y).before a0 Z = true) (w3 : (Cond.selects C y y).before a0 Z = true) (w4 : (Cond.instanceMethod y).before a0 Z = true) (w5 : (Cond.code y bytes maxL rt).before a0 Z = true) (w6 : (Cond.initialized y.cls).before a0 Z = true)
    (hy : y.cls ≠ "java/lang/invoke/MethodHandle" ∧ y.cls ≠ "java/lang/invoke/VarHandle") {a : Addr} (E : Exa Z h a C) {W : Nat} (hf : rm.frames + 1 ≤ R.frames) (hl : W + (maxL + 11) + rm.locals ≤ R.locals) {pc : Nat} {Ls : Array Slot} (hsz : Ls.size = c.maxLocals) {argsL rest st : List Value} (ha : (Value.ref a :: argsL).toArray = as')
    (hlen : ∀ sig, parseMethodDescriptor y.desc = some sig → argsL.length = sig.parameters.length) (hst : st = argsL.reverse ++ .ref a :: rest) (hW : (rest.map fun v => v.category).sum ≤ W) (hd : decode c.code pc = .ok (.invokevirtual index, 3)) (eT : T.heap = h) (hc : cells + rm.cells ≤ R.cells) (hs : slots + rm.slots ≤ R.slots)
    (k : ∀ (v : Option Value) (T' : State) (L : List Loc), Stand p l e R s m args below meth c T' (locs ++ L) (cells + rm.cells) (slots + rm.slots) → Q v T'.heap L → own_Go p.tables e below (T'.setTop (mkF m (pc + 3) Ls (v.toList ++ rest))) RR) :
    own_Go p.tables e below (T.setTop (mkF m pc Ls st)) RR := by
  subst ha
  obtain ⟨cB, kB, qa, qb, qc⟩ := isOf hZ eT E
  obtain ⟨v, _, ⟨T', L', k', n'⟩, -, X', ⟨Lc, hQ, l', y', z'⟩, stp⟩ := X.virtualBack hx (y := y) (z := y) hown (mvT hZ w1) (mvT hZ w2) (notFace_of_selects (args := #[]) (mvT hZ w3)) (mvT hZ w3) (mvT hZ w4) hy (backOf (W := W) hM hZ w5 w6 hf hl) qa qc (g := mkF m pc Ls st) rfl hsz (Steps.refl _) (argsL := argsL) (rest := rest) hlen hst (by show 2 * 0 + _ ≤ _; omega) hd (fun _ _ => ⟨rfl, eT, hc, hs⟩)
  dsimp only [Pt.U, Pt.locs, Pt.cells, Pt.slots] at X' l' y' z' stp hQ
  subst l' y' z'
  exact own_st (fun t k => stp.trans k) (k v T' Lc X' hQ)
theorem own_callVU (X : Stand p l e R s m args below meth c T locs cells slots) (hx : p.tables.exec = Jvm.exec) (hZ : Z.Warmed39 s.vm) {x y : MethodName} {bytes : ByteArray} {maxL : Nat} {rt : Option FieldType} {rm : Room} {as' : Array Value}
    (hM : own_Met l y bytes maxL rt [] rm as' Z h Q) {own C owner : String} {index : Nat} (hown : s.vm.findClass own = some m.cls) (w1 : (Cond.methodLink own index x).before a0 Z = true) (w1' : (Cond.sameMethod x.cls owner x.name x.desc).before a0 Z = true) (w2 : (Cond.declares ⟨owner, x.name, x.desc⟩).before a0 Z = true) (w3 : (Cond.selects C x y).before a0 Z = true) (w4 : (Cond.instanceMethod y).before a0 Z = true) (w5 : (Cond.code y bytes maxL rt).before a0 Z = true) (w6 : (Cond.initialized y.cls).before a0 Z = true)
    (hy : owner ≠ "java/lang/invoke/MethodHandle" ∧ owner ≠ "java/lang/invoke/VarHandle") {a : Addr} (E : Exa Z h a C) {W : Nat} (hf : rm.frames + 1 ≤ R.frames) (hl : W + (maxL + 11) + rm.locals ≤ R.locals) {pc : Nat} {Ls : Array Slot} (hsz : Ls.size = c.maxLocals) {argsL rest st : List Value} (ha : (Value.ref a :: argsL).toArray = as')
    (hlen : ∀ sig, parseMethodDescriptor x.desc = some sig → argsL.length = sig.parameters.length) (hst : st = argsL.reverse ++ .ref a :: rest) (hW : (rest.map fun v => v.category).sum ≤ W) (hd : decode c.code pc = .ok (.invokevirtual index, 3)) (eT : T.heap = h) (hc : cells + rm.cells ≤ R.cells) (hs : slots + rm.slots ≤ R.slots)
    (k : ∀ (v : Option Value) (T' : State) (L : List Loc), Stand p l e R s m args below meth c T' (locs ++ L) (cells + rm.cells) (slots + rm.slots) → Q v T'.heap L → own_Go p.tables e below (T'.setTop (mkF m (pc + 3) Ls (v.toList ++ rest))) RR) :
    own_Go p.tables e below (T.setTop (mkF m pc Ls st)) RR := by
  subst ha
  obtain ⟨cB, kB, qa, qb, qc⟩ := isOf hZ eT E
  obtain ⟨v, _, ⟨T', L', k', n'⟩, -, X', ⟨Lc, hQ, l', y', z'⟩, stp⟩ := X.virtualBackUp hx hown (mvT hZ w1) (mvT hZ w1') (mvT hZ w2) hy (mvT hZ w3) (mvT hZ w4) (backOf (W := W) hM hZ w5 w6 hf hl) qa qc (g := mkF m pc Ls st) rfl hsz (Steps.refl _) (argsL := argsL) (rest := rest) hlen hst (by show 2 * 0 + _ ≤ _; omega) hd (fun _ _ => ⟨rfl, eT, hc, hs⟩)
  dsimp only [Pt.U, Pt.locs, Pt.cells, Pt.slots] at X' l' y' z' stp hQ
  subst l' y' z'
  exact own_st (fun t k => stp.trans k) (k v T' Lc X' hQ)
theorem own_iload (X : Stand p l e R s m args below meth c T locs cells slots) (hx : p.tables.exec = Jvm.exec) {B : ByteArray} (hby : c.code = B) {pc pc' : Nat} {Ls : Array Slot} {S : List Value} {k : Nat} {v : Int32} (hd : decode B pc = .ok (.iload k, 2)) (hp : pc + 2 = pc') (hl : Ls[k]? = some (.val (.int v))) (g : own_Go p.tables e below (T.setTop (mkF m pc' Ls (.int v :: S))) RR) : own_Go p.tables e below (T.setTop (mkF m pc Ls S)) RR := by
  subst hp
  exact own_st (fun t k => XS.iload X.here hx rfl (hb hby hd) hl k) g
theorem own_iloadN (X : Stand p l e R s m args below meth c T locs cells slots) (hx : p.tables.exec = Jvm.exec) {B : ByteArray} (hby : c.code = B) {pc pc' : Nat} {Ls : Array Slot} {S : List Value} {k : Fin 4} {v : Int32} (hd : decode B pc = .ok (.iload_n k, 1)) (hp : pc + 1 = pc') (hl : Ls[k.val]? = some (.val (.int v))) (g : own_Go p.tables e below (T.setTop (mkF m pc' Ls (.int v :: S))) RR) : own_Go p.tables e below (T.setTop (mkF m pc Ls S)) RR := by
  subst hp
  exact own_st (fun t k => XS.iloadN X.here hx rfl (hb hby hd) hl k) g
theorem own_lload (X : Stand p l e R s m args below meth c T locs cells slots) (hx : p.tables.exec = Jvm.exec) {B : ByteArray} (hby : c.code = B) {pc pc' : Nat} {Ls : Array Slot} {S : List Value} {k : Nat} {v : Int64} (hd : decode B pc = .ok (.lload k, 2)) (hp : pc + 2 = pc') (hl : Ls[k]? = some (.val (.long v))) (g : own_Go p.tables e below (T.setTop (mkF m pc' Ls (.long v :: S))) RR) : own_Go p.tables e below (T.setTop (mkF m pc Ls S)) RR := by
  subst hp
  exact own_st (fun t k => XS.lload X.here hx rfl (hb hby hd) hl k) g
theorem own_lloadN (X : Stand p l e R s m args below meth c T locs cells slots) (hx : p.tables.exec = Jvm.exec) {B : ByteArray} (hby : c.code = B) {pc pc' : Nat} {Ls : Array Slot} {S : List Value} {k : Fin 4} {v : Int64} (hd : decode B pc = .ok (.lload_n k, 1)) (hp : pc + 1 = pc') (hl : Ls[k.val]? = some (.val (.long v))) (g : own_Go p.tables e below (T.setTop (mkF m pc' Ls (.long v :: S))) RR) : own_Go p.tables e below (T.setTop (mkF m pc Ls S)) RR := by
  subst hp
  exact own_st (fun t k => XS.lloadN X.here hx rfl (hb hby hd) hl k) g
theorem own_aload (X : Stand p l e R s m args below meth c T locs cells slots) (hx : p.tables.exec = Jvm.exec) {B : ByteArray} (hby : c.code = B) {pc pc' : Nat} {Ls : Array Slot} {S : List Value} {k : Nat} {v : Value} (hd : decode B pc = .ok (.aload k, 2)) (hp : pc + 2 = pc') (hl : Ls[k]? = some (.val v)) (hv : v.isRef = true) (g : own_Go p.tables e below (T.setTop (mkF m pc' Ls (v :: S))) RR) : own_Go p.tables e below (T.setTop (mkF m pc Ls S)) RR := by
  subst hp
  exact own_st (fun t k => XS.aload X.here hx rfl (hb hby hd) hl hv k) g
theorem own_aloadN (X : Stand p l e R s m args below meth c T locs cells slots) (hx : p.tables.exec = Jvm.exec) {B : ByteArray} (hby : c.code = B) {pc pc' : Nat} {Ls : Array Slot} {S : List Value} {k : Fin 4} {v : Value} (hd : decode B pc = .ok (.aload_n k, 1)) (hp : pc + 1 = pc') (hl : Ls[k.val]? = some (.val v)) (hv : v.isRef = true) (g : own_Go p.tables e below (T.setTop (mkF m pc' Ls (v :: S))) RR) : own_Go p.tables e below (T.setTop (mkF m pc Ls S)) RR := by
  subst hp
  exact own_st (fun t k => XS.aloadN X.here hx rfl (hb hby hd) hl hv k) g
theorem own_istore (X : Stand p l e R s m args below meth c T locs cells slots) (hx : p.tables.exec = Jvm.exec) {B : ByteArray} (hby : c.code = B) {pc pc' : Nat} {Ls : Array Slot} {S : List Value} {k : Nat} {v : Int32} {Ls' : Array Slot} (hd : decode B pc = .ok (.istore k, 2)) (hp : pc + 2 = pc') (hl : storeLocals Ls k (.int v) = some Ls') (g : own_Go p.tables e below (T.setTop (mkF m pc' Ls' S)) RR) : own_Go p.tables e below (T.setTop (mkF m pc Ls (.int v :: S))) RR := by
  subst hp
  exact own_st (fun t k => XS.istore X.here hx rfl (hb hby hd) rfl hl k) g
theorem own_istoreN (X : Stand p l e R s m args below meth c T locs cells slots) (hx : p.tables.exec = Jvm.exec) {B : ByteArray} (hby : c.code = B) {pc pc' : Nat} {Ls : Array Slot} {S : List Value} {k : Fin 4} {v : Int32} {Ls' : Array Slot} (hd : decode B pc = .ok (.istore_n k, 1)) (hp : pc + 1 = pc') (hl : storeLocals Ls k.val (.int v) = some Ls') (g : own_Go p.tables e below (T.setTop (mkF m pc' Ls' S)) RR) : own_Go p.tables e below (T.setTop (mkF m pc Ls (.int v :: S))) RR := by
  subst hp
  exact own_st (fun t k => XS.istoreN X.here hx rfl (hb hby hd) rfl hl k) g
theorem own_lstore (X : Stand p l e R s m args below meth c T locs cells slots) (hx : p.tables.exec = Jvm.exec) {B : ByteArray} (hby : c.code = B) {pc pc' : Nat} {Ls : Array Slot} {S : List Value} {k : Nat} {v : Int64} {Ls' : Array Slot} (hd : decode B pc = .ok (.lstore k, 2)) (hp : pc + 2 = pc') (hl : storeLocals Ls k (.long v) = some Ls') (g : own_Go p.tables e below (T.setTop (mkF m pc' Ls' S)) RR) : own_Go p.tables e below (T.setTop (mkF m pc Ls (.long v :: S))) RR := by
  subst hp
  exact own_st (fun t k => XS.lstore X.here hx rfl (hb hby hd) rfl hl k) g
theorem own_lstoreN (X : Stand p l e R s m args below meth c T locs cells slots) (hx : p.tables.exec = Jvm.exec) {B : ByteArray} (hby : c.code = B) {pc pc' : Nat} {Ls : Array Slot} {S : List Value} {k : Fin 4} {v : Int64} {Ls' : Array Slot} (hd : decode B pc = .ok (.lstore_n k, 1)) (hp : pc + 1 = pc') (hl : storeLocals Ls k.val (.long v) = some Ls') (g : own_Go p.tables e below (T.setTop (mkF m pc' Ls' S)) RR) : own_Go p.tables e below (T.setTop (mkF m pc Ls (.long v :: S))) RR := by
  subst hp
  exact own_st (fun t k => XS.lstoreN X.here hx rfl (hb hby hd) rfl hl k) g
theorem own_astore (X : Stand p l e R s m args below meth c T locs cells slots) (hx : p.tables.exec = Jvm.exec) {B : ByteArray} (hby : c.code = B) {pc pc' : Nat} {Ls : Array Slot} {S : List Value} {k : Nat} {v : Value} {Ls' : Array Slot} (hd : decode B pc = .ok (.astore k, 2)) (hp : pc + 2 = pc') (hv : v.isRef = true) (hl : storeLocals Ls k v = some Ls') (g : own_Go p.tables e below (T.setTop (mkF m pc' Ls' S)) RR) : own_Go p.tables e below (T.setTop (mkF m pc Ls (v :: S))) RR := by
  subst hp
  exact own_st (fun t k => XS.astore X.here hx rfl (hb hby hd) rfl hv hl k) g
theorem own_astoreN (X : Stand p l e R s m args below meth c T locs cells slots) (hx : p.tables.exec = Jvm.exec) {B : ByteArray} (hby : c.code = B) {pc pc' : Nat} {Ls : Array Slot} {S : List Value} {k : Fin 4} {v : Value} {Ls' : Array Slot} (hd : decode B pc = .ok (.astore_n k, 1)) (hp : pc + 1 = pc') (hv : v.isRef = true) (hl : storeLocals Ls k.val v = some Ls') (g : own_Go p.tables e below (T.setTop (mkF m pc' Ls' S)) RR) : own_Go p.tables e below (T.setTop (mkF m pc Ls (v :: S))) RR := by
  subst hp
  exact own_st (fun t k => XS.astoreN X.here hx rfl (hb hby hd) rfl hv hl k) g
theorem own_iconst (X : Stand p l e R s m args below meth c T locs cells slots) (hx : p.tables.exec = Jvm.exec) {B : ByteArray} (hby : c.code = B) {pc pc' : Nat} {Ls : Array Slot} {S : List Value} {i : Int} {z : Int32} (hd : decode B pc = .ok (.iconst i, 1)) (hp : pc + 1 = pc') (hz : Int32.ofInt i = z) (g : own_Go p.tables e below (T.setTop (mkF m pc' Ls (.int z :: S))) RR) : own_Go p.tables e below (T.setTop (mkF m pc Ls S)) RR := by
  subst hp
  subst hz
  exact own_st (fun t k => XS.iconst X.here hx rfl (hb hby hd) k) g
theorem own_bipush (X : Stand p l e R s m args below meth c T locs cells slots) (hx : p.tables.exec = Jvm.exec) {B : ByteArray} (hby : c.code = B) {pc pc' : Nat} {Ls : Array Slot} {S : List Value} {i : Int} {z : Int32} (hd : decode B pc = .ok (.bipush i, 2)) (hp : pc + 2 = pc') (hz : (Int8.ofInt i).toInt32 = z) (g : own_Go p.tables e below (T.setTop (mkF m pc' Ls (.int z :: S))) RR) : own_Go p.tables e below (T.setTop (mkF m pc Ls S)) RR := by
  subst hp
  subst hz
  exact own_st (fun t k => XS.bipush X.here hx rfl (hb hby hd) k) g
theorem own_sipush (X : Stand p l e R s m args below meth c T locs cells slots) (hx : p.tables.exec = Jvm.exec) {B : ByteArray} (hby : c.code = B) {pc pc' : Nat} {Ls : Array Slot} {S : List Value} {i : Int} {z : Int32} (hd : decode B pc = .ok (.sipush i, 3)) (hp : pc + 3 = pc') (hz : (Int16.ofInt i).toInt32 = z) (g : own_Go p.tables e below (T.setTop (mkF m pc' Ls (.int z :: S))) RR) : own_Go p.tables e below (T.setTop (mkF m pc Ls S)) RR := by
  subst hp
  subst hz
  exact own_st (fun t k => XS.sipush X.here hx rfl (hb hby hd) k) g
theorem own_lconst (X : Stand p l e R s m args below meth c T locs cells slots) (hx : p.tables.exec = Jvm.exec) {B : ByteArray} (hby : c.code = B) {pc pc' : Nat} {Ls : Array Slot} {S : List Value} {k : Fin 2} {z : Int64} (hd : decode B pc = .ok (.lconst k, 1)) (hp : pc + 1 = pc') (hz : Int64.ofNat k = z) (g : own_Go p.tables e below (T.setTop (mkF m pc' Ls (.long z :: S))) RR) : own_Go p.tables e below (T.setTop (mkF m pc Ls S)) RR := by
  subst hp
  subst hz
  exact own_st (fun t k => XS.lconst X.here hx rfl (hb hby hd) k) g
theorem own_aconst_null (X : Stand p l e R s m args below meth c T locs cells slots) (hx : p.tables.exec = Jvm.exec) {B : ByteArray} (hby : c.code = B) {pc pc' : Nat} {Ls : Array Slot} {S : List Value}  (hd : decode B pc = .ok (.aconst_null, 1)) (hp : pc + 1 = pc')  (g : own_Go p.tables e below (T.setTop (mkF m pc' Ls (.null :: S))) RR) : own_Go p.tables e below (T.setTop (mkF m pc Ls S)) RR := by
  subst hp
  exact own_st (fun t k => XS.aconstNull X.here hx rfl (hb hby hd) k) g
theorem own_iadd (X : Stand p l e R s m args below meth c T locs cells slots) (hx : p.tables.exec = Jvm.exec) {B : ByteArray} (hby : c.code = B) {pc pc' : Nat} {Ls : Array Slot} {S : List Value} {x y z : Int32} (hd : decode B pc = .ok (.iadd, 1)) (hp : pc + 1 = pc') (hz : x + y = z) (g : own_Go p.tables e below (T.setTop (mkF m pc' Ls (.int z :: S))) RR) : own_Go p.tables e below (T.setTop (mkF m pc Ls (.int y :: .int x :: S))) RR := by
  subst hp
  subst hz
  exact own_st (fun t k => XS.iadd X.here hx rfl (hb hby hd) rfl k) g
theorem own_ladd (X : Stand p l e R s m args below meth c T locs cells slots) (hx : p.tables.exec = Jvm.exec) {B : ByteArray} (hby : c.code = B) {pc pc' : Nat} {Ls : Array Slot} {S : List Value} {x y z : Int64} (hd : decode B pc = .ok (.ladd, 1)) (hp : pc + 1 = pc') (hz : x + y = z) (g : own_Go p.tables e below (T.setTop (mkF m pc' Ls (.long z :: S))) RR) : own_Go p.tables e below (T.setTop (mkF m pc Ls (.long y :: .long x :: S))) RR := by
  subst hp
  subst hz
  exact own_st (fun t k => XS.ladd X.here hx rfl (hb hby hd) rfl k) g
theorem own_isub (X : Stand p l e R s m args below meth c T locs cells slots) (hx : p.tables.exec = Jvm.exec) {B : ByteArray} (hby : c.code = B) {pc pc' : Nat} {Ls : Array Slot} {S : List Value} {x y z : Int32} (hd : decode B pc = .ok (.isub, 1)) (hp : pc + 1 = pc') (hz : x - y = z) (g : own_Go p.tables e below (T.setTop (mkF m pc' Ls (.int z :: S))) RR) : own_Go p.tables e below (T.setTop (mkF m pc Ls (.int y :: .int x :: S))) RR := by
  subst hp
  subst hz
  exact own_st (fun t k => XS.isub X.here hx rfl (hb hby hd) rfl k) g
theorem own_lsub (X : Stand p l e R s m args below meth c T locs cells slots) (hx : p.tables.exec = Jvm.exec) {B : ByteArray} (hby : c.code = B) {pc pc' : Nat} {Ls : Array Slot} {S : List Value} {x y z : Int64} (hd : decode B pc = .ok (.lsub, 1)) (hp : pc + 1 = pc') (hz : x - y = z) (g : own_Go p.tables e below (T.setTop (mkF m pc' Ls (.long z :: S))) RR) : own_Go p.tables e below (T.setTop (mkF m pc Ls (.long y :: .long x :: S))) RR := by
  subst hp
  subst hz
  exact own_st (fun t k => XS.lsub X.here hx rfl (hb hby hd) rfl k) g
theorem own_imul (X : Stand p l e R s m args below meth c T locs cells slots) (hx : p.tables.exec = Jvm.exec) {B : ByteArray} (hby : c.code = B) {pc pc' : Nat} {Ls : Array Slot} {S : List Value} {x y z : Int32} (hd : decode B pc = .ok (.imul, 1)) (hp : pc + 1 = pc') (hz : x * y = z) (g : own_Go p.tables e below (T.setTop (mkF m pc' Ls (.int z :: S))) RR) : own_Go p.tables e below (T.setTop (mkF m pc Ls (.int y :: .int x :: S))) RR := by
  subst hp
  subst hz
  exact own_st (fun t k => XS.imul X.here hx rfl (hb hby hd) rfl k) g
theorem own_lmul (X : Stand p l e R s m args below meth c T locs cells slots) (hx : p.tables.exec = Jvm.exec) {B : ByteArray} (hby : c.code = B) {pc pc' : Nat} {Ls : Array Slot} {S : List Value} {x y z : Int64} (hd : decode B pc = .ok (.lmul, 1)) (hp : pc + 1 = pc') (hz : x * y = z) (g : own_Go p.tables e below (T.setTop (mkF m pc' Ls (.long z :: S))) RR) : own_Go p.tables e below (T.setTop (mkF m pc Ls (.long y :: .long x :: S))) RR := by
  subst hp
  subst hz
  exact own_st (fun t k => XS.lmul X.here hx rfl (hb hby hd) rfl k) g
theorem own_iand (X : Stand p l e R s m args below meth c T locs cells slots) (hx : p.tables.exec = Jvm.exec) {B : ByteArray} (hby : c.code = B) {pc pc' : Nat} {Ls : Array Slot} {S : List Value} {x y z : Int32} (hd : decode B pc = .ok (.iand, 1)) (hp : pc + 1 = pc') (hz : x &&& y = z) (g : own_Go p.tables e below (T.setTop (mkF m pc' Ls (.int z :: S))) RR) : own_Go p.tables e below (T.setTop (mkF m pc Ls (.int y :: .int x :: S))) RR := by
  subst hp
  subst hz
  exact own_st (fun t k => XS.iand X.here hx rfl (hb hby hd) rfl k) g
theorem own_land (X : Stand p l e R s m args below meth c T locs cells slots) (hx : p.tables.exec = Jvm.exec) {B : ByteArray} (hby : c.code = B) {pc pc' : Nat} {Ls : Array Slot} {S : List Value} {x y z : Int64} (hd : decode B pc = .ok (.land, 1)) (hp : pc + 1 = pc') (hz : x &&& y = z) (g : own_Go p.tables e below (T.setTop (mkF m pc' Ls (.long z :: S))) RR) : own_Go p.tables e below (T.setTop (mkF m pc Ls (.long y :: .long x :: S))) RR := by
  subst hp
  subst hz
  exact own_st (fun t k => XS.land X.here hx rfl (hb hby hd) rfl k) g
theorem own_ior (X : Stand p l e R s m args below meth c T locs cells slots) (hx : p.tables.exec = Jvm.exec) {B : ByteArray} (hby : c.code = B) {pc pc' : Nat} {Ls : Array Slot} {S : List Value} {x y z : Int32} (hd : decode B pc = .ok (.ior, 1)) (hp : pc + 1 = pc') (hz : x ||| y = z) (g : own_Go p.tables e below (T.setTop (mkF m pc' Ls (.int z :: S))) RR) : own_Go p.tables e below (T.setTop (mkF m pc Ls (.int y :: .int x :: S))) RR := by
  subst hp
  subst hz
  exact own_st (fun t k => XS.ior X.here hx rfl (hb hby hd) rfl k) g
theorem own_lor (X : Stand p l e R s m args below meth c T locs cells slots) (hx : p.tables.exec = Jvm.exec) {B : ByteArray} (hby : c.code = B) {pc pc' : Nat} {Ls : Array Slot} {S : List Value} {x y z : Int64} (hd : decode B pc = .ok (.lor, 1)) (hp : pc + 1 = pc') (hz : x ||| y = z) (g : own_Go p.tables e below (T.setTop (mkF m pc' Ls (.long z :: S))) RR) : own_Go p.tables e below (T.setTop (mkF m pc Ls (.long y :: .long x :: S))) RR := by
  subst hp
  subst hz
  exact own_st (fun t k => XS.lor X.here hx rfl (hb hby hd) rfl k) g
theorem own_ixor (X : Stand p l e R s m args below meth c T locs cells slots) (hx : p.tables.exec = Jvm.exec) {B : ByteArray} (hby : c.code = B) {pc pc' : Nat} {Ls : Array Slot} {S : List Value} {x y z : Int32} (hd : decode B pc = .ok (.ixor, 1)) (hp : pc + 1 = pc') (hz : x ^^^ y = z) (g : own_Go p.tables e below (T.setTop (mkF m pc' Ls (.int z :: S))) RR) : own_Go p.tables e below (T.setTop (mkF m pc Ls (.int y :: .int x :: S))) RR := by
  subst hp
  subst hz
  exact own_st (fun t k => XS.ixor X.here hx rfl (hb hby hd) rfl k) g
theorem own_lxor (X : Stand p l e R s m args below meth c T locs cells slots) (hx : p.tables.exec = Jvm.exec) {B : ByteArray} (hby : c.code = B) {pc pc' : Nat} {Ls : Array Slot} {S : List Value} {x y z : Int64} (hd : decode B pc = .ok (.lxor, 1)) (hp : pc + 1 = pc') (hz : x ^^^ y = z) (g : own_Go p.tables e below (T.setTop (mkF m pc' Ls (.long z :: S))) RR) : own_Go p.tables e below (T.setTop (mkF m pc Ls (.long y :: .long x :: S))) RR := by
  subst hp
  subst hz
  exact own_st (fun t k => XS.lxor X.here hx rfl (hb hby hd) rfl k) g
theorem own_ishl (X : Stand p l e R s m args below meth c T locs cells slots) (hx : p.tables.exec = Jvm.exec) {B : ByteArray} (hby : c.code = B) {pc pc' : Nat} {Ls : Array Slot} {S : List Value} {x y z : Int32} (hd : decode B pc = .ok (.ishl, 1)) (hp : pc + 1 = pc') (hz : x <<< (y &&& 31) = z) (g : own_Go p.tables e below (T.setTop (mkF m pc' Ls (.int z :: S))) RR) : own_Go p.tables e below (T.setTop (mkF m pc Ls (.int y :: .int x :: S))) RR := by
  subst hp
  subst hz
  exact own_st (fun t k => XS.ishl X.here hx rfl (hb hby hd) rfl k) g
theorem own_ishr (X : Stand p l e R s m args below meth c T locs cells slots) (hx : p.tables.exec = Jvm.exec) {B : ByteArray} (hby : c.code = B) {pc pc' : Nat} {Ls : Array Slot} {S : List Value} {x y z : Int32} (hd : decode B pc = .ok (.ishr, 1)) (hp : pc + 1 = pc') (hz : x >>> (y &&& 31) = z) (g : own_Go p.tables e below (T.setTop (mkF m pc' Ls (.int z :: S))) RR) : own_Go p.tables e below (T.setTop (mkF m pc Ls (.int y :: .int x :: S))) RR := by
  subst hp
  subst hz
  exact own_st (fun t k => XS.ishr X.here hx rfl (hb hby hd) rfl k) g
theorem own_iushr (X : Stand p l e R s m args below meth c T locs cells slots) (hx : p.tables.exec = Jvm.exec) {B : ByteArray} (hby : c.code = B) {pc pc' : Nat} {Ls : Array Slot} {S : List Value} {x y z : Int32} (hd : decode B pc = .ok (.iushr, 1)) (hp : pc + 1 = pc') (hz : (x.toUInt32 >>> (y &&& 31).toUInt32).toInt32 = z) (g : own_Go p.tables e below (T.setTop (mkF m pc' Ls (.int z :: S))) RR) : own_Go p.tables e below (T.setTop (mkF m pc Ls (.int y :: .int x :: S))) RR := by
  subst hp
  subst hz
  exact own_st (fun t k => XS.iushr X.here hx rfl (hb hby hd) rfl k) g
theorem own_lshl (X : Stand p l e R s m args below meth c T locs cells slots) (hx : p.tables.exec = Jvm.exec) {B : ByteArray} (hby : c.code = B) {pc pc' : Nat} {Ls : Array Slot} {S : List Value} {x z : Int64} {y : Int32} (hd : decode B pc = .ok (.lshl, 1)) (hp : pc + 1 = pc') (hz : x <<< (y &&& 0x3f).toInt64 = z) (g : own_Go p.tables e below (T.setTop (mkF m pc' Ls (.long z :: S))) RR) : own_Go p.tables e below (T.setTop (mkF m pc Ls (.int y :: .long x :: S))) RR := by
  subst hp
  subst hz
  exact own_st (fun t k => XS.lshl X.here hx rfl (hb hby hd) rfl k) g
theorem own_lshr (X : Stand p l e R s m args below meth c T locs cells slots) (hx : p.tables.exec = Jvm.exec) {B : ByteArray} (hby : c.code = B) {pc pc' : Nat} {Ls : Array Slot} {S : List Value} {x z : Int64} {y : Int32} (hd : decode B pc = .ok (.lshr, 1)) (hp : pc + 1 = pc') (hz : x >>> (y &&& 0x3f).toInt64 = z) (g : own_Go p.tables e below (T.setTop (mkF m pc' Ls (.long z :: S))) RR) : own_Go p.tables e below (T.setTop (mkF m pc Ls (.int y :: .long x :: S))) RR := by
  subst hp
  subst hz
  exact own_st (fun t k => XS.lshr X.here hx rfl (hb hby hd) rfl k) g
theorem own_lushr (X : Stand p l e R s m args below meth c T locs cells slots) (hx : p.tables.exec = Jvm.exec) {B : ByteArray} (hby : c.code = B) {pc pc' : Nat} {Ls : Array Slot} {S : List Value} {x z : Int64} {y : Int32} (hd : decode B pc = .ok (.lushr, 1)) (hp : pc + 1 = pc') (hz : (x.toUInt64 >>> (y &&& 0x3f).toInt64.toUInt64).toInt64 = z) (g : own_Go p.tables e below (T.setTop (mkF m pc' Ls (.long z :: S))) RR) : own_Go p.tables e below (T.setTop (mkF m pc Ls (.int y :: .long x :: S))) RR := by
  subst hp
  subst hz
  exact own_st (fun t k => XS.lushr X.here hx rfl (hb hby hd) rfl k) g
theorem own_ineg (X : Stand p l e R s m args below meth c T locs cells slots) (hx : p.tables.exec = Jvm.exec) {B : ByteArray} (hby : c.code = B) {pc pc' : Nat} {Ls : Array Slot} {S : List Value} {x : Int32} {z : Int32} (hd : decode B pc = .ok (.ineg, 1)) (hp : pc + 1 = pc') (hz : -x = z) (g : own_Go p.tables e below (T.setTop (mkF m pc' Ls (.int z :: S))) RR) : own_Go p.tables e below (T.setTop (mkF m pc Ls (.int x :: S))) RR := by
  subst hp
  subst hz
  exact own_st (fun t k => XS.ineg X.here hx rfl (hb hby hd) rfl k) g
theorem own_lneg (X : Stand p l e R s m args below meth c T locs cells slots) (hx : p.tables.exec = Jvm.exec) {B : ByteArray} (hby : c.code = B) {pc pc' : Nat} {Ls : Array Slot} {S : List Value} {x : Int64} {z : Int64} (hd : decode B pc = .ok (.lneg, 1)) (hp : pc + 1 = pc') (hz : -x = z) (g : own_Go p.tables e below (T.setTop (mkF m pc' Ls (.long z :: S))) RR) : own_Go p.tables e below (T.setTop (mkF m pc Ls (.long x :: S))) RR := by
  subst hp
  subst hz
  exact own_st (fun t k => XS.lneg X.here hx rfl (hb hby hd) rfl k) g
theorem own_i2l (X : Stand p l e R s m args below meth c T locs cells slots) (hx : p.tables.exec = Jvm.exec) {B : ByteArray} (hby : c.code = B) {pc pc' : Nat} {Ls : Array Slot} {S : List Value} {x : Int32} {z : Int64} (hd : decode B pc = .ok (.i2l, 1)) (hp : pc + 1 = pc') (hz : x.toInt64 = z) (g : own_Go p.tables e below (T.setTop (mkF m pc' Ls (.long z :: S))) RR) : own_Go p.tables e below (T.setTop (mkF m pc Ls (.int x :: S))) RR := by
  subst hp
  subst hz
  exact own_st (fun t k => XS.i2l X.here hx rfl (hb hby hd) rfl k) g
theorem own_l2i (X : Stand p l e R s m args below meth c T locs cells slots) (hx : p.tables.exec = Jvm.exec) {B : ByteArray} (hby : c.code = B) {pc pc' : Nat} {Ls : Array Slot} {S : List Value} {x : Int64} {z : Int32} (hd : decode B pc = .ok (.l2i, 1)) (hp : pc + 1 = pc') (hz : x.toInt32 = z) (g : own_Go p.tables e below (T.setTop (mkF m pc' Ls (.int z :: S))) RR) : own_Go p.tables e below (T.setTop (mkF m pc Ls (.long x :: S))) RR := by
  subst hp
  subst hz
  exact own_st (fun t k => XS.l2i X.here hx rfl (hb hby hd) rfl k) g
theorem own_i2b (X : Stand p l e R s m args below meth c T locs cells slots) (hx : p.tables.exec = Jvm.exec) {B : ByteArray} (hby : c.code = B) {pc pc' : Nat} {Ls : Array Slot} {S : List Value} {x : Int32} {z : Int32} (hd : decode B pc = .ok (.i2b, 1)) (hp : pc + 1 = pc') (hz : x.toInt8.toInt32 = z) (g : own_Go p.tables e below (T.setTop (mkF m pc' Ls (.int z :: S))) RR) : own_Go p.tables e below (T.setTop (mkF m pc Ls (.int x :: S))) RR := by
  subst hp
  subst hz
  exact own_st (fun t k => XS.i2b X.here hx rfl (hb hby hd) rfl k) g
theorem own_i2s (X : Stand p l e R s m args below meth c T locs cells slots) (hx : p.tables.exec = Jvm.exec) {B : ByteArray} (hby : c.code = B) {pc pc' : Nat} {Ls : Array Slot} {S : List Value} {x : Int32} {z : Int32} (hd : decode B pc = .ok (.i2s, 1)) (hp : pc + 1 = pc') (hz : x.toInt16.toInt32 = z) (g : own_Go p.tables e below (T.setTop (mkF m pc' Ls (.int z :: S))) RR) : own_Go p.tables e below (T.setTop (mkF m pc Ls (.int x :: S))) RR := by
  subst hp
  subst hz
  exact own_st (fun t k => XS.i2s X.here hx rfl (hb hby hd) rfl k) g
theorem own_i2c (X : Stand p l e R s m args below meth c T locs cells slots) (hx : p.tables.exec = Jvm.exec) {B : ByteArray} (hby : c.code = B) {pc pc' : Nat} {Ls : Array Slot} {S : List Value} {x : Int32} {z : Int32} (hd : decode B pc = .ok (.i2c, 1)) (hp : pc + 1 = pc') (hz : x.toUInt32.toUInt16.toUInt32.toInt32 = z) (g : own_Go p.tables e below (T.setTop (mkF m pc' Ls (.int z :: S))) RR) : own_Go p.tables e below (T.setTop (mkF m pc Ls (.int x :: S))) RR := by
  subst hp
  subst hz
  exact own_st (fun t k => XS.i2c X.here hx rfl (hb hby hd) rfl k) g
theorem own_idiv (X : Stand p l e R s m args below meth c T locs cells slots) (hx : p.tables.exec = Jvm.exec) {B : ByteArray} (hby : c.code = B) {pc pc' : Nat} {Ls : Array Slot} {S : List Value} {x y z : Int32} (hd : decode B pc = .ok (.idiv, 1)) (hp : pc + 1 = pc') (hy : y ≠ 0) (hz : x / y = z) (g : own_Go p.tables e below (T.setTop (mkF m pc' Ls (.int z :: S))) RR) : own_Go p.tables e below (T.setTop (mkF m pc Ls (.int y :: .int x :: S))) RR := by
  subst hp
  subst hz
  exact own_st (fun t k => XS.idiv X.here hx rfl (hb hby hd) rfl hy k) g
theorem own_ldiv (X : Stand p l e R s m args below meth c T locs cells slots) (hx : p.tables.exec = Jvm.exec) {B : ByteArray} (hby : c.code = B) {pc pc' : Nat} {Ls : Array Slot} {S : List Value} {x y z : Int64} (hd : decode B pc = .ok (.ldiv, 1)) (hp : pc + 1 = pc') (hy : y ≠ 0) (hz : x / y = z) (g : own_Go p.tables e below (T.setTop (mkF m pc' Ls (.long z :: S))) RR) : own_Go p.tables e below (T.setTop (mkF m pc Ls (.long y :: .long x :: S))) RR := by
  subst hp
  subst hz
  exact own_st (fun t k => XS.ldiv X.here hx rfl (hb hby hd) rfl hy k) g
theorem own_irem (X : Stand p l e R s m args below meth c T locs cells slots) (hx : p.tables.exec = Jvm.exec) {B : ByteArray} (hby : c.code = B) {pc pc' : Nat} {Ls : Array Slot} {S : List Value} {x y z : Int32} (hd : decode B pc = .ok (.irem, 1)) (hp : pc + 1 = pc') (hy : y ≠ 0) (hz : x - (x / y) * y = z) (g : own_Go p.tables e below (T.setTop (mkF m pc' Ls (.int z :: S))) RR) : own_Go p.tables e below (T.setTop (mkF m pc Ls (.int y :: .int x :: S))) RR := by
  subst hp
  subst hz
  exact own_st (fun t k => XS.irem X.here hx rfl (hb hby hd) rfl hy k) g
theorem own_lrem (X : Stand p l e R s m args below meth c T locs cells slots) (hx : p.tables.exec = Jvm.exec) {B : ByteArray} (hby : c.code = B) {pc pc' : Nat} {Ls : Array Slot} {S : List Value} {x y z : Int64} (hd : decode B pc = .ok (.lrem, 1)) (hp : pc + 1 = pc') (hy : y ≠ 0) (hz : x - (x / y) * y = z) (g : own_Go p.tables e below (T.setTop (mkF m pc' Ls (.long z :: S))) RR) : own_Go p.tables e below (T.setTop (mkF m pc Ls (.long y :: .long x :: S))) RR := by
  subst hp
  subst hz
  exact own_st (fun t k => XS.lrem X.here hx rfl (hb hby hd) rfl hy k) g
theorem own_lcmp (X : Stand p l e R s m args below meth c T locs cells slots) (hx : p.tables.exec = Jvm.exec) {B : ByteArray} (hby : c.code = B) {pc pc' : Nat} {Ls : Array Slot} {S : List Value} {x y : Int64} (hd : decode B pc = .ok (.lcmp, 1)) (hp : pc + 1 = pc')  (g : own_Go p.tables e below (T.setTop (mkF m pc' Ls (.int (lcmpW x y) :: S))) RR) : own_Go p.tables e below (T.setTop (mkF m pc Ls (.long y :: .long x :: S))) RR := by
  subst hp
  exact own_st (fun t k => XS.lcmp X.here hx rfl (hb hby hd) rfl k) g
theorem own_iinc (X : Stand p l e R s m args below meth c T locs cells slots) (hx : p.tables.exec = Jvm.exec) {B : ByteArray} (hby : c.code = B) {pc pc' : Nat} {Ls : Array Slot} {S : List Value} {k : Nat} {cst : Int} {x z : Int32} {Ls' : Array Slot} (hd : decode B pc = .ok (.iinc k cst, 3)) (hp : pc + 3 = pc') (hl : Ls[k]? = some (.val (.int x))) (hz : x + Int32.ofInt cst = z) (hl' : storeLocals Ls k (.int z) = some Ls') (g : own_Go p.tables e below (T.setTop (mkF m pc' Ls' S)) RR) : own_Go p.tables e below (T.setTop (mkF m pc Ls S)) RR := by
  subst hp
  subst hz
  exact own_st (fun t k => XS.iinc X.here hx rfl (hb hby hd) hl hl' k) g
theorem own_dup (X : Stand p l e R s m args below meth c T locs cells slots) (hx : p.tables.exec = Jvm.exec) {B : ByteArray} (hby : c.code = B) {pc pc' : Nat} {Ls : Array Slot} {S : List Value} {x : Value} (hd : decode B pc = .ok (.dup, 1)) (hp : pc + 1 = pc') (hc : x.category = 1) (g : own_Go p.tables e below (T.setTop (mkF m pc' Ls (x :: x :: S))) RR) : own_Go p.tables e below (T.setTop (mkF m pc Ls (x :: S))) RR := by
  subst hp
  exact own_st (fun t k => XS.dup X.here hx rfl (hb hby hd) rfl hc k) g
theorem own_dup_x1 (X : Stand p l e R s m args below meth c T locs cells slots) (hx : p.tables.exec = Jvm.exec) {B : ByteArray} (hby : c.code = B) {pc pc' : Nat} {Ls : Array Slot} {S : List Value} {x y : Value} (hd : decode B pc = .ok (.dup_x1, 1)) (hp : pc + 1 = pc') (hc : x.category = 1) (hc' : y.category = 1) (g : own_Go p.tables e below (T.setTop (mkF m pc' Ls (x :: y :: x :: S))) RR) : own_Go p.tables e below (T.setTop (mkF m pc Ls (x :: y :: S))) RR := by
  subst hp
  exact own_st (fun t k => XS.dupX1 X.here hx rfl (hb hby hd) rfl hc hc' k) g
theorem own_dup2 (X : Stand p l e R s m args below meth c T locs cells slots) (hx : p.tables.exec = Jvm.exec) {B : ByteArray} (hby : c.code = B) {pc pc' : Nat} {Ls : Array Slot} {S : List Value} {x y : Value} (hd : decode B pc = .ok (.dup2, 1)) (hp : pc + 1 = pc') (hc : x.category = 1) (hc' : y.category = 1) (g : own_Go p.tables e below (T.setTop (mkF m pc' Ls (x :: y :: x :: y :: S))) RR) : own_Go p.tables e below (T.setTop (mkF m pc Ls (x :: y :: S))) RR := by
  subst hp
  exact own_st (fun t k => Jvm.Free.XT.dup2 X.here hx rfl (hb hby hd) rfl hc hc' k) g
theorem own_dup2L (X : Stand p l e R s m args below meth c T locs cells slots) (hx : p.tables.exec = Jvm.exec) {B : ByteArray} (hby : c.code = B) {pc pc' : Nat} {Ls : Array Slot} {S : List Value} {x : Int64} (hd : decode B pc = .ok (.dup2, 1)) (hp : pc + 1 = pc')  (g : own_Go p.tables e below (T.setTop (mkF m pc' Ls (.long x :: .long x :: S))) RR) : own_Go p.tables e below (T.setTop (mkF m pc Ls (.long x :: S))) RR := by
  subst hp
  exact own_st (fun t k => Jvm.Free.XT.dup2L X.here hx rfl (hb hby hd) rfl k) g
theorem own_pop (X : Stand p l e R s m args below meth c T locs cells slots) (hx : p.tables.exec = Jvm.exec) {B : ByteArray} (hby : c.code = B) {pc pc' : Nat} {Ls : Array Slot} {S : List Value} {x : Value} (hd : decode B pc = .ok (.pop, 1)) (hp : pc + 1 = pc') (hc : x.category = 1) (g : own_Go p.tables e below (T.setTop (mkF m pc' Ls S)) RR) : own_Go p.tables e below (T.setTop (mkF m pc Ls (x :: S))) RR := by
  subst hp
  exact own_st (fun t k => XS.pop X.here hx rfl (hb hby hd) rfl hc k) g
theorem own_goto (X : Stand p l e R s m args below meth c T locs cells slots) (hx : p.tables.exec = Jvm.exec) {B : ByteArray} (hby : c.code = B) {pc pc' : Nat} {Ls : Array Slot} {S : List Value}  {o : Int} (hd : decode B pc = .ok (.goto o, 3)) (hp : 0 ≤ (pc : Int) + o ∧ ((pc : Int) + o).toNat = pc')  (g : own_Go p.tables e below (T.setTop (mkF m pc' Ls S)) RR) : own_Go p.tables e below (T.setTop (mkF m pc Ls S)) RR :=
  own_st (fun t k => XS.goto X.here hx rfl rfl (hb hby hd) hp.1 hp.2 k) g
theorem own_ifYes (X : Stand p l e R s m args below meth c T locs cells slots) (hx : p.tables.exec = Jvm.exec) {B : ByteArray} (hby : c.code = B) {pc pc' : Nat} {Ls : Array Slot} {S : List Value} {cd : ClassFile.Cond} {x : Int32} {o : Int} (hd : decode B pc = .ok (.ifCond cd o, 3)) (hp : 0 ≤ (pc : Int) + o ∧ ((pc : Int) + o).toNat = pc') (hc : if_icmp.holds cd x 0 = true) (g : own_Go p.tables e below (T.setTop (mkF m pc' Ls S)) RR) : own_Go p.tables e below (T.setTop (mkF m pc Ls (.int x :: S))) RR :=
  own_st (fun t k => XS.ifYes X.here hx rfl rfl (hb hby hd) rfl ((if0 _ _).trans hc) hp.1 hp.2 k) g
theorem own_icmpYes (X : Stand p l e R s m args below meth c T locs cells slots) (hx : p.tables.exec = Jvm.exec) {B : ByteArray} (hby : c.code = B) {pc pc' : Nat} {Ls : Array Slot} {S : List Value} {cd : ClassFile.Cond} {x y : Int32} {o : Int} (hd : decode B pc = .ok (.if_icmp cd o, 3)) (hp : 0 ≤ (pc : Int) + o ∧ ((pc : Int) + o).toNat = pc') (hc : if_icmp.holds cd x y = true) (g : own_Go p.tables e below (T.setTop (mkF m pc' Ls S)) RR) : own_Go p.tables e below (T.setTop (mkF m pc Ls (.int y :: .int x :: S))) RR :=
  own_st (fun t k => XS.icmpYes X.here hx rfl rfl (hb hby hd) rfl hc hp.1 hp.2 k) g
theorem own_ifnullYes (X : Stand p l e R s m args below meth c T locs cells slots) (hx : p.tables.exec = Jvm.exec) {B : ByteArray} (hby : c.code = B) {pc pc' : Nat} {Ls : Array Slot} {S : List Value}  {o : Int} (hd : decode B pc = .ok (.ifnull o, 3)) (hp : 0 ≤ (pc : Int) + o ∧ ((pc : Int) + o).toNat = pc')  (g : own_Go p.tables e below (T.setTop (mkF m pc' Ls S)) RR) : own_Go p.tables e below (T.setTop (mkF m pc Ls (.null :: S))) RR :=
  own_st (fun t k => XS.ifnullYes X.here hx rfl rfl (hb hby hd) rfl hp.1 hp.2 k) g
theorem own_ifnonnullYes (X : Stand p l e R s m args below meth c T locs cells slots) (hx : p.tables.exec = Jvm.exec) {B : ByteArray} (hby : c.code = B) {pc pc' : Nat} {Ls : Array Slot} {S : List Value} {b : Addr} {o : Int} (hd : decode B pc = .ok (.ifnonnull o, 3)) (hp : 0 ≤ (pc : Int) + o ∧ ((pc : Int) + o).toNat = pc')  (g : own_Go p.tables e below (T.setTop (mkF m pc' Ls S)) RR) : own_Go p.tables e below (T.setTop (mkF m pc Ls (.ref b :: S))) RR :=
  own_st (fun t k => XS.ifnonnullYes X.here hx rfl rfl (hb hby hd) rfl hp.1 hp.2 k) g
theorem own_ifNo (X : Stand p l e R s m args below meth c T locs cells slots) (hx : p.tables.exec = Jvm.exec) {B : ByteArray} (hby : c.code = B) {pc pc' : Nat} {Ls : Array Slot} {S : List Value} {cd : ClassFile.Cond} {o : Int} {x : Int32} (hd : decode B pc = .ok (.ifCond cd o, 3)) (hp : pc + 3 = pc') (hc : if_icmp.holds cd x 0 = false) (g : own_Go p.tables e below (T.setTop (mkF m pc' Ls S)) RR) : own_Go p.tables e below (T.setTop (mkF m pc Ls (.int x :: S))) RR := by
  subst hp
  exact own_st (fun t k => XS.ifNo X.here hx rfl (hb hby hd) rfl ((if0 _ _).trans hc) k) g
theorem own_icmpNo (X : Stand p l e R s m args below meth c T locs cells slots) (hx : p.tables.exec = Jvm.exec) {B : ByteArray} (hby : c.code = B) {pc pc' : Nat} {Ls : Array Slot} {S : List Value} {cd : ClassFile.Cond} {o : Int} {x y : Int32} (hd : decode B pc = .ok (.if_icmp cd o, 3)) (hp : pc + 3 = pc') (hc : if_icmp.holds cd x y = false) (g : own_Go p.tables e below (T.setTop (mkF m pc' Ls S)) RR) : own_Go p.tables e below (T.setTop (mkF m pc Ls (.int y :: .int x :: S))) RR := by
  subst hp
  exact own_st (fun t k => XS.icmpNo X.here hx rfl (hb hby hd) rfl hc k) g
theorem own_ifnullNo (X : Stand p l e R s m args below meth c T locs cells slots) (hx : p.tables.exec = Jvm.exec) {B : ByteArray} (hby : c.code = B) {pc pc' : Nat} {Ls : Array Slot} {S : List Value} {o : Int} {b : Addr} (hd : decode B pc = .ok (.ifnull o, 3)) (hp : pc + 3 = pc')  (g : own_Go p.tables e below (T.setTop (mkF m pc' Ls S)) RR) : own_Go p.tables e below (T.setTop (mkF m pc Ls (.ref b :: S))) RR := by
  subst hp
  exact own_st (fun t k => XS.ifnullNo X.here hx rfl (hb hby hd) rfl k) g
theorem own_ifnonnullNo (X : Stand p l e R s m args below meth c T locs cells slots) (hx : p.tables.exec = Jvm.exec) {B : ByteArray} (hby : c.code = B) {pc pc' : Nat} {Ls : Array Slot} {S : List Value} {o : Int} (hd : decode B pc = .ok (.ifnonnull o, 3)) (hp : pc + 3 = pc')  (g : own_Go p.tables e below (T.setTop (mkF m pc' Ls S)) RR) : own_Go p.tables e below (T.setTop (mkF m pc Ls (.null :: S))) RR := by
  subst hp
  exact own_st (fun t k => XS.ifnonnullNo X.here hx rfl (hb hby hd) rfl k) g
theorem own_acmp (X : Stand p l e R s m args below meth c T locs cells slots) (hx : p.tables.exec = Jvm.exec) {B : ByteArray} (hby : c.code = B) {pc pc' : Nat} {Ls : Array Slot} {S : List Value} {cd : ACond} {o : Int} {x y : Value} {same : Bool} (hd : decode B pc = .ok (.if_acmp cd o, 3)) (h1 : x.isRef = true) (h2 : y.isRef = true) (hq : decide (x = y) = same) (hp : 0 ≤ (pc : Int) + o ∧ pc' = if acV cd same = true then ((pc : Int) + o).toNat else pc + 3) (g : own_Go p.tables e below (T.setTop (mkF m pc' Ls S)) RR) : own_Go p.tables e below (T.setTop (mkF m pc Ls (y :: x :: S))) RR :=
  own_st (fun t k => Jvm.RoadKit.acmp X hx rfl h1 h2 rfl (hb hby hd) rfl hq hp.1 hp.2 k) g
theorem own_tsw (X : Stand p l e R s m args below meth c T locs cells slots) (hx : p.tables.exec = Jvm.exec) {B : ByteArray} (hby : c.code = B) {pc pc' : Nat} {Ls : Array Slot} {S : List Value} {dflt low high : Int} {offs : Array Int} {len : Nat} {o : Int} {i : Int32} (hd : decode B pc = .ok (.tableswitch dflt low high offs, len)) (hin : ¬ (i.toInt < low ∨ i.toInt > high)) (hoff : offs[(i.toInt - low).toNat]? = some o) (hp : 0 ≤ (pc : Int) + o ∧ ((pc : Int) + o).toNat = pc') (g : own_Go p.tables e below (T.setTop (mkF m pc' Ls S)) RR) : own_Go p.tables e below (T.setTop (mkF m pc Ls (.int i :: S))) RR :=
  own_st (fun t k => XS.tswIn X.here hx rfl rfl (hb hby hd) rfl hin hoff hp.1 hp.2 k) g
theorem own_ldc (X : Stand p l e R s m args below meth c T locs cells slots) (hx : p.tables.exec = Jvm.exec) {B : ByteArray} (hby : c.code = B) {pc pc' : Nat} {Ls : Array Slot} {S : List Value} {own : String} {index : Nat} {v : Int32} (hd : decode B pc = .ok (.ldc index, 2)) (hp : pc + 2 = pc') (hZ : Z.Warmed39 s.vm) (hown : s.vm.findClass own = some m.cls) (w : (Cond.constant own index v).before a0 Z = true) (g : own_Go p.tables e below (T.setTop (mkF m pc' Ls (.int v :: S))) RR) : own_Go p.tables e below (T.setTop (mkF m pc Ls S)) RR := by
  subst hp
  exact own_st (X.ldcInt hx hown (mvT hZ w) (g := mkF m pc Ls S) rfl (hb hby hd)) g
theorem own_ldc2 (X : Stand p l e R s m args below meth c T locs cells slots) (hx : p.tables.exec = Jvm.exec) {B : ByteArray} (hby : c.code = B) {pc pc' : Nat} {Ls : Array Slot} {S : List Value} {own : String} {index : Nat} {v : Int64} (hd : decode B pc = .ok (.ldc2_w index, 3)) (hp : pc + 3 = pc') (hZ : Z.Warmed39 s.vm) (hown : s.vm.findClass own = some m.cls) (w : (Cond.constantLong own index v).before a0 Z = true) (g : own_Go p.tables e below (T.setTop (mkF m pc' Ls (.long v :: S))) RR) : own_Go p.tables e below (T.setTop (mkF m pc Ls S)) RR := by
  subst hp
  exact own_st (X.ldc2Long hx hown (mvT hZ w) (g := mkF m pc Ls S) rfl (hb hby hd)) g
theorem own_getS (X : Stand p l e R s m args below meth c T locs cells slots) (hx : p.tables.exec = Jvm.exec) {B : ByteArray} (hby : c.code = B) {pc pc' : Nat} {Ls : Array Slot} {S : List Value} {own R0 O n d host : String} {index : Nat} {v : Value} (hd : decode B pc = .ok (.getstatic index, 3)) (hp : pc + 3 = pc') (hZ : Z.Warmed39 s.vm) (hown : s.vm.findClass own = some m.cls) (w : (Cond.fieldLink own index R0 n d).before a0 Z = true ∨ (Cond.fieldLinkNest own index R0 n d host).before a0 Z = true) (via : Via Z R0 O n d) (eT : T.heap = h) (F : Sta Z h O n d v) (g : ∀ T' : State, Stand p l e R s m args below meth c T' locs cells slots → T'.heap = h → own_Go p.tables e below (T'.setTop (mkF m pc' Ls (v :: S))) RR) : own_Go p.tables e below (T.setTop (mkF m pc Ls S)) RR := by
  subst hp
  obtain ⟨T', X', e', st⟩ := getS2 X hx hZ hown w via eT F (g := mkF m pc Ls S) rfl (hb hby hd)
  exact own_st st (g T' X' e')
theorem own_getF (X : Stand p l e R s m args below meth c T locs cells slots) (hx : p.tables.exec = Jvm.exec) {B : ByteArray} (hby : c.code = B) {pc pc' : Nat} {Ls : Array Slot} {S : List Value} {own R0 O n d host : String} {index : Nat} {v : Value} {a : Addr} (hd : decode B pc = .ok (.getfield index, 3)) (hp : pc + 3 = pc') (hZ : Z.Warmed39 s.vm) (hown : s.vm.findClass own = some m.cls) (w : (Cond.fieldLink own index R0 n d).before a0 Z = true ∨ (Cond.fieldLinkNest own index R0 n d host).before a0 Z = true) (via : Via Z R0 O n d) (eT : T.heap = h) (F : Fld Z h a O n d v) (g : ∀ T' : State, Stand p l e R s m args below meth c T' locs cells slots → T'.heap = h → own_Go p.tables e below (T'.setTop (mkF m pc' Ls (v :: S))) RR) : own_Go p.tables e below (T.setTop (mkF m pc Ls (.ref a :: S))) RR := by
  subst hp
  obtain ⟨T', X', e', st⟩ := getF X hx hZ hown w via eT F (g := mkF m pc Ls (.ref a :: S)) rfl rfl (hb hby hd)
  exact own_st st (g T' X' e')
theorem own_new (X : Stand p l e R s m args below meth c T locs cells slots) (hx : p.tables.exec = Jvm.exec) {B : ByteArray} (hby : c.code = B) {pc pc' : Nat} {Ls : Array Slot} {S : List Value} {own C : String} {index n : Nat} (hd : decode B pc = .ok (.new index, 3)) (hp : pc + 3 = pc') (hZ : Z.Warmed39 s.vm) (hown : s.vm.findClass own = some m.cls) (w : (Cond.classLink own index C).before a0 Z = true) (wi : (Cond.instantiable C n).before a0 Z = true) (wz : (Cond.initialized C).before a0 Z = true) (eT : T.heap = h) (hc : cells + 1 ≤ R.cells) (hl : slots + n ≤ R.slots) (g : ∀ (T' : State) (h' : Heap) (a : Addr), Stand p l e R s m args below meth c T' locs (cells + 1) (slots + n) → T'.heap = h' → a = h.size → Ext h h' → Exa Z h' a C → (∀ {O nm d : String} {ty : FieldType}, Laid Z a0 C O nm d → parseFieldDescriptor d = some ty → Fld Z h' a O nm d (defaultValue ty)) → own_Go p.tables e below (T'.setTop (mkF m pc' Ls (.ref a :: S))) RR) : own_Go p.tables e below (T.setTop (mkF m pc Ls S)) RR := by
  subst hp
  obtain ⟨T', h', X', e', E', A', D', -, st⟩ := newO X hx hZ hown w wi wz eT (g := mkF m pc Ls S) rfl (hb hby hd) hc hl
  exact own_st st (g T' h' _ X' e' rfl E' A' D')
theorem own_put (X : Stand p l e R s m args below meth c T locs cells slots) (hx : p.tables.exec = Jvm.exec) {B : ByteArray} (hby : c.code = B) {pc pc' : Nat} {Ls : Array Slot} {S : List Value} {own R0 O n d host C : String} {index kk : Nat} {ty : FieldType} {a : Addr} {v old : Value} (hd : decode B pc = .ok (.putfield index, 3)) (hp : pc + 3 = pc') (hZ : Z.Warmed39 s.vm) (hown : s.vm.findClass own = some m.cls) (w : (Cond.fieldLink own index R0 n d).before a0 Z = true ∨ (Cond.fieldLinkNest own index R0 n d host).before a0 Z = true) (via : Via Z R0 O n d) (eT : T.heap = h) (F : Fld Z h a O n d old) (E : Exa Z h a C) (L : (Cond.lays C O n d).before a0 Z = true ∨ ((Cond.laysFinal C O n d).before a0 Z = true ∧ own = O ∧ meth.name = "<init>")) (wi : (Cond.instantiable C kk).before a0 Z = true) (hty : parseFieldDescriptor d = some ty) (hn : narrow ty v = v) (hf : fits ty v = true) (g : ∀ (T' : State) (h' : Heap), Stand p l e R s m args below meth c T' (locs ++ [⟨a, Jvm.RoadKit.slotOf Z O n d⟩]) cells slots → T'.heap = h' → Wr h h' a (Jvm.RoadKit.slotOf Z O n d) v → own_Go p.tables e below (T'.setTop (mkF m pc' Ls S)) RR) : own_Go p.tables e below (T.setTop (mkF m pc Ls (v :: .ref a :: S))) RR := by
  subst hp
  obtain ⟨T', h', X', e', W', st⟩ := putF X hx hZ hown w via eT F E L wi hty hn hf (g := mkF m pc Ls (v :: .ref a :: S)) rfl rfl (hb hby hd)
  exact own_st st (g T' h' X' e' W')
theorem own_putN (X : Stand p l e R s m args below meth c T locs cells slots) (hx : p.tables.exec = Jvm.exec) {B : ByteArray} (hby : c.code = B) {pc pc' : Nat} {Ls : Array Slot} {S : List Value} {own R0 O n d C : String} {index kk : Nat} {ty : FieldType} {a : Addr} {v v' old : Value} (hd : decode B pc = .ok (.putfield index, 3)) (hp : pc + 3 = pc') (hZ : Z.Warmed39 s.vm) (hown : s.vm.findClass own = some m.cls) (w : (Cond.fieldLink own index R0 n d).before a0 Z = true) (via : Via Z R0 O n d) (eT : T.heap = h) (F : Fld Z h a O n d old) (E : Exa Z h a C) (L : (Cond.lays C O n d).before a0 Z = true ∨ ((Cond.laysFinal C O n d).before a0 Z = true ∧ own = O ∧ meth.name = "<init>")) (wi : (Cond.instantiable C kk).before a0 Z = true) (hty : parseFieldDescriptor d = some ty) (hn : narrow ty v = v') (hf : fits ty v' = true) (g : ∀ (T' : State) (h' : Heap), Stand p l e R s m args below meth c T' (locs ++ [⟨a, Jvm.RoadKit.slotOf Z O n d⟩]) cells slots → T'.heap = h' → Wr h h' a (Jvm.RoadKit.slotOf Z O n d) v' → own_Go p.tables e below (T'.setTop (mkF m pc' Ls S)) RR) : own_Go p.tables e below (T.setTop (mkF m pc Ls (v :: .ref a :: S))) RR := by
  subst hp
  obtain ⟨T', h', X', e', W', st⟩ := putFN X hx hZ hown w via eT F E L wi hty hn hf (g := mkF m pc Ls (v :: .ref a :: S)) rfl rfl (hb hby hd)
  exact own_st st (g T' h' X' e' W')
theorem own_initO (X : Stand p l e R s m args below meth c T locs cells slots) (hx : p.tables.exec = Jvm.exec) {B : ByteArray} (hby : c.code = B) {pc pc' : Nat} {Ls : Array Slot} {S : List Value} {own : String} {index : Nat} {a : Addr} (hd : decode B pc = .ok (.invokespecial index, 3)) (hp : pc + 3 = pc') (hZ : Z.Warmed39 s.vm) (hown : s.vm.findClass own = some m.cls) (w1 : (Cond.methodLink own index Lib.objectInit).before a0 Z = true) (w2 : (Cond.instanceMethod Lib.objectInit).before a0 Z = true) (w3 : (Cond.code Lib.objectInit ⟨#[0xb1]⟩ 1 none).before a0 Z = true) (eT : T.heap = h) (hsz : Ls.size = c.maxLocals) (hf : 1 ≤ R.frames) {W : Nat} (hW : (S.map fun v => v.category).sum ≤ W) (hl : W + 12 ≤ R.locals) (g : ∀ (T' : State), Stand p l e R s m args below meth c T' locs cells slots → T'.heap = h → own_Go p.tables e below (T'.setTop (mkF m pc' Ls S)) RR) : own_Go p.tables e below (T.setTop (mkF m pc Ls (.ref a :: S))) RR := by
  subst hp
  obtain ⟨T', X', e', st⟩ := initO X hx hZ hown w1 w2 w3 eT (g := mkF m pc Ls (.ref a :: S)) rfl hsz rfl (hb hby hd) hf (W := W) (by show 2 * 0 + _ ≤ _; omega) hl
  exact own_st st (g T' X' e')
theorem own_castY (X : Stand p l e R s m args below meth c T locs cells slots) (hx : p.tables.exec = Jvm.exec) {B : ByteArray} (hby : c.code = B) {pc pc' : Nat} {Ls : Array Slot} {S : List Value} {own K : String} {index : Nat} {a : Addr} (hd : decode B pc = .ok (.checkcast index, 3)) (hp : pc + 3 = pc') (hZ : Z.Warmed39 s.vm) (hown : s.vm.findClass own = some m.cls) (w : (Cond.classLink own index K).before a0 Z = true) (eT : T.heap = h) (F : Ins Z h a K true) (g : ∀ (T' : State), Stand p l e R s m args below meth c T' locs cells slots → T'.heap = h → own_Go p.tables e below (T'.setTop (mkF m pc' Ls (.ref a :: S))) RR) : own_Go p.tables e below (T.setTop (mkF m pc Ls (.ref a :: S))) RR := by
  subst hp
  obtain ⟨T', X', e', st⟩ := castY X hx hZ hown w eT F (g := mkF m pc Ls (.ref a :: S)) rfl rfl (hb hby hd)
  exact own_st st (g T' X' e')
theorem own_instY (X : Stand p l e R s m args below meth c T locs cells slots) (hx : p.tables.exec = Jvm.exec) {B : ByteArray} (hby : c.code = B) {pc pc' : Nat} {Ls : Array Slot} {S : List Value} {own K : String} {index : Nat} {a : Addr} (hd : decode B pc = .ok (.instanceof index, 3)) (hp : pc + 3 = pc') (hZ : Z.Warmed39 s.vm) (hown : s.vm.findClass own = some m.cls) (w : (Cond.classLink own index K).before a0 Z = true) (eT : T.heap = h) (F : Ins Z h a K true) (g : ∀ (T' : State), Stand p l e R s m args below meth c T' locs cells slots → T'.heap = h → own_Go p.tables e below (T'.setTop (mkF m pc' Ls (.int 1 :: S))) RR) : own_Go p.tables e below (T.setTop (mkF m pc Ls (.ref a :: S))) RR := by
  subst hp
  obtain ⟨T', X', e', st⟩ := instY X hx hZ hown w eT F (g := mkF m pc Ls (.ref a :: S)) rfl rfl (hb hby hd)
  exact own_st st (g T' X' e')
theorem own_castN (X : Stand p l e R s m args below meth c T locs cells slots) (hx : p.tables.exec = Jvm.exec) {B : ByteArray} (hby : c.code = B) {pc pc' : Nat} {Ls : Array Slot} {S : List Value} {index : Nat} (hd : decode B pc = .ok (.checkcast index, 3)) (hp : pc + 3 = pc') (g : own_Go p.tables e below (T.setTop (mkF m pc' Ls (.null :: S))) RR) : own_Go p.tables e below (T.setTop (mkF m pc Ls (.null :: S))) RR := by
  subst hp
  exact own_st (X.checkcastNull hx (g := mkF m pc Ls (.null :: S)) rfl rfl (hb hby hd)) g
theorem own_instN (X : Stand p l e R s m args below meth c T locs cells slots) (hx : p.tables.exec = Jvm.exec) {B : ByteArray} (hby : c.code = B) {pc pc' : Nat} {Ls : Array Slot} {S : List Value} {index : Nat} (hd : decode B pc = .ok (.instanceof index, 3)) (hp : pc + 3 = pc') (g : own_Go p.tables e below (T.setTop (mkF m pc' Ls (.int 0 :: S))) RR) : own_Go p.tables e below (T.setTop (mkF m pc Ls (.null :: S))) RR := by
  subst hp
  exact own_st (X.instanceofNull hx (g := mkF m pc Ls (.null :: S)) rfl rfl (hb hby hd)) g
theorem own_callSp (X : Stand p l e R s m args below meth c T locs cells slots) (hx : p.tables.exec = Jvm.exec) (hZ : Z.Warmed39 s.vm) {y : MethodName} {bytes : ByteArray} {maxL : Nat} {rm : Room} {as' : Array Value}
    (hM : own_Met l y bytes maxL none [] rm as' Z h Q) (hin : y.name = "<init>") {own : String} {index : Nat} (hown : s.vm.findClass own = some m.cls) (w1 : (Cond.methodLink own index y).before a0 Z = true) (w4 : (Cond.instanceMethod y).before a0 Z = true) (w5 : (Cond.code y bytes maxL none).before a0 Z = true) (w6 : (Cond.initialized y.cls).before a0 Z = true)
    (hy : y.cls ≠ "java/lang/invoke/MethodHandle" ∧ y.cls ≠ "java/lang/invoke/VarHandle") {a : Addr} {W : Nat} (hf : rm.frames + 1 ≤ R.frames) (hl : W + (maxL + 11) + rm.locals ≤ R.locals) {pc : Nat} {Ls : Array Slot} (hsz : Ls.size = c.maxLocals) {argsL rest st : List Value} (ha : (Value.ref a :: argsL).toArray = as')
    (hlen : ∀ sig, parseMethodDescriptor y.desc = some sig → argsL.length = sig.parameters.length) (hst : st = argsL.reverse ++ .ref a :: rest) (hW : (rest.map fun v => v.category).sum ≤ W) (hd : decode c.code pc = .ok (.invokespecial index, 3)) (eT : T.heap = h) (hc : cells + rm.cells ≤ R.cells) (hs : slots + rm.slots ≤ R.slots)
    (k : ∀ (v : Option Value) (T' : State) (L : List Loc), Stand p l e R s m args below meth c T' (locs ++ L) (cells + rm.cells) (slots + rm.slots) → Q v T'.heap L → own_Go p.tables e below (T'.setTop (mkF m (pc + 3) Ls (v.toList ++ rest))) RR) :
    own_Go p.tables e below (T.setTop (mkF m pc Ls st)) RR := by
  subst ha
  obtain ⟨v, _, ⟨T', L', k', n'⟩, -, X', ⟨Lc, hQ, l', y', z'⟩, stp⟩ := X.specialBack hx (y := y) hin hown (mvT hZ w1) (mvT hZ w4) (mvT hZ w5) hy (backOf (W := W) hM hZ w5 w6 hf hl) (g := mkF m pc Ls st) rfl hsz (Steps.refl _) (a := a) (argsL := argsL) (rest := rest) hlen hst (by show 2 * 0 + _ ≤ _; omega) hd (fun _ _ => ⟨rfl, eT, hc, hs⟩)
  dsimp only [Pt.U, Pt.locs, Pt.cells, Pt.slots] at X' l' y' z' stp hQ
  subst l' y' z'
  exact own_st (fun t k => stp.trans k) (k v T' Lc X' hQ)
/-! arrays: own_Ar says all that an array holds, by a list -/
def own_Ar (Z : State) (h : Heap) (a : Addr) (ty : FieldType) (vs : List Value) : Prop := ∃ c : Cell, Arr Z h a c ty ∧ c.slots.toList = vs
theorem own_Ar.lt {a : Addr} {ty : FieldType} {vs : List Value} (F : own_Ar Z h a ty vs) : a < h.size := by obtain ⟨c, A, -⟩ := F; exact A.lt
theorem own_Ar.ext {h' : Heap} {a : Addr} {ty : FieldType} {vs : List Value} (F : own_Ar Z h a ty vs) (E : Ext h h') : own_Ar Z h' a ty vs := by obtain ⟨c, A, q⟩ := F; exact ⟨c, A.ext E, q⟩
theorem own_Ar.other {h' : Heap} {a b : Addr} {sl : Nat} {v : Value} {ty : FieldType} {vs : List Value} (F : own_Ar Z h b ty vs) (W : Wr h h' a sl v) (q : b ≠ a) : own_Ar Z h' b ty vs := by obtain ⟨c, A, r⟩ := F; exact ⟨c, A.other W q, r⟩
theorem own_Ar.keep {h' : Heap} {a : Addr} {ws : List Addr} {ty : FieldType} {vs : List Value} (F : own_Ar Z h a ty vs) (K : Keep h h' ws) (q : a ∉ ws) : own_Ar Z h' a ty vs := by obtain ⟨c, A, r⟩ := F; exact ⟨c, ⟨K.2.1 a c A.1 q, A.2⟩, r⟩
theorem own_Ar.same {h' : Heap} {a : Addr} {sl : Nat} {v : Value} {ty : FieldType} {vs : List Value} (F : own_Ar Z h a ty vs) (W : Wr h h' a sl v) : own_Ar Z h' a ty (vs.set sl v) := by
  obtain ⟨c, A, r⟩ := F
  refine ⟨_, A.same W, ?_⟩
  rw [← r]
  show (c.slots.setIfInBounds sl v).toList = _
  exact Array.toList_setIfInBounds
theorem own_Ar.at {a : Addr} {ty : FieldType} {vs : List Value} (F : own_Ar Z h a ty vs) {j : Int32} (hj : ¬ j < 0) {v : Value} (hv : vs[j.toNatClampNeg]? = some v) : ∃ c : Cell, Arr Z h a c ty ∧ c.slots.toList = vs ∧ ¬ (j < 0 ∨ c.slots.size ≤ j.toNatClampNeg) ∧ c.slots[j.toNatClampNeg]? = some v := by
  obtain ⟨c, A, r⟩ := F
  subst r
  have q : c.slots[j.toNatClampNeg]? = some v := by rw [← Array.getElem?_toList]; exact hv
  refine ⟨c, A, rfl, ?_, q⟩
  rintro (u | u)
  · exact hj u
  · rw [Array.getElem?_eq_none u] at q; cases q
theorem own_newA (X : Stand p l e R s m args below meth c T locs cells slots) (hx : p.tables.exec = Jvm.exec) {B : ByteArray} (hby : c.code = B) {pc pc' : Nat} {Ls : Array Slot} {S : List Value} {aty : ArrayType} {n : Int32} {vs : List Value} (hd : decode B pc = .ok (.newarray aty, 2)) (hp : pc + 2 = pc') (hZ : Z.Warmed39 s.vm) (w : (Cond.arrayClass (newarray.typeOf aty)).before a0 Z = true) (eT : T.heap = h) (hn : ¬ n < 0) {cap : Nat} (hcap : n.toNatClampNeg ≤ cap) (hbig : cap * 8 ≤ 536870912) (hc : cells + 1 ≤ R.cells) (hl : slots + cap ≤ R.slots) (hvs : List.replicate n.toNatClampNeg (defaultValue (newarray.typeOf aty)) = vs) (g : ∀ (T' : State) (h' : Heap) (a : Addr), Stand p l e R s m args below meth c T' locs (cells + 1) (slots + cap) → T'.heap = h' → a = h.size → Ext h h' → own_Ar Z h' a (newarray.typeOf aty) vs → own_Go p.tables e below (T'.setTop (mkF m pc' Ls (.ref a :: S))) RR) : own_Go p.tables e below (T.setTop (mkF m pc Ls (.int n :: S))) RR := by
  subst hp
  obtain ⟨T', h', cA, X', e', E', A', st⟩ := newP X hx hZ w eT (g := mkF m pc Ls (.int n :: S)) rfl (hb hby hd) rfl hn hcap hbig hc hl
  exact own_st st (g T' h' _ X' e' rfl E' ⟨_, A', by rw [← hvs]; exact Array.toList_replicate⟩)
theorem own_iaload (X : Stand p l e R s m args below meth c T locs cells slots) (hx : p.tables.exec = Jvm.exec) {B : ByteArray} (hby : c.code = B) {pc pc' : Nat} {Ls : Array Slot} {S : List Value} {a : Addr} {j : Int32} {v : Value} {vs : List Value} (hd : decode B pc = .ok (.iaload, 1)) (hp : pc + 1 = pc') (hZ : Z.Warmed39 s.vm) (eT : T.heap = h) (A : own_Ar Z h a .int vs) (hj : ¬ j < 0) (hv : vs[j.toNatClampNeg]? = some v) (g : own_Go p.tables e below (T.setTop (mkF m pc' Ls (v :: S))) RR) : own_Go p.tables e below (T.setTop (mkF m pc Ls (.int j :: .ref a :: S))) RR := by
  subst hp
  obtain ⟨cl, Ar, -, hin, hat⟩ := A.at hj hv
  exact own_st (fun t k => X.iaload hx (j := j) (v := v) (by rw [eT]; exact Ar.1) (State.isArrayOf_alike hZ.alike Ar.2.1) Ar.2.2 hin hat (g := mkF m pc Ls (.int j :: .ref a :: S)) rfl rfl (hb hby hd) t k) g
theorem own_laload (X : Stand p l e R s m args below meth c T locs cells slots) (hx : p.tables.exec = Jvm.exec) {B : ByteArray} (hby : c.code = B) {pc pc' : Nat} {Ls : Array Slot} {S : List Value} {a : Addr} {j : Int32} {v : Value} {vs : List Value} (hd : decode B pc = .ok (.laload, 1)) (hp : pc + 1 = pc') (hZ : Z.Warmed39 s.vm) (eT : T.heap = h) (A : own_Ar Z h a .long vs) (hj : ¬ j < 0) (hv : vs[j.toNatClampNeg]? = some v) (g : own_Go p.tables e below (T.setTop (mkF m pc' Ls (v :: S))) RR) : own_Go p.tables e below (T.setTop (mkF m pc Ls (.int j :: .ref a :: S))) RR := by
  subst hp
  obtain ⟨cl, Ar, -, hin, hat⟩ := A.at hj hv
  exact own_st (fun t k => X.laload hx (j := j) (v := v) (by rw [eT]; exact Ar.1) (State.isArrayOf_alike hZ.alike Ar.2.1) Ar.2.2 hin hat (g := mkF m pc Ls (.int j :: .ref a :: S)) rfl rfl (hb hby hd) t k) g
theorem own_caload (X : Stand p l e R s m args below meth c T locs cells slots) (hx : p.tables.exec = Jvm.exec) {B : ByteArray} (hby : c.code = B) {pc pc' : Nat} {Ls : Array Slot} {S : List Value} {a : Addr} {j : Int32} {v : Value} {vs : List Value} (hd : decode B pc = .ok (.caload, 1)) (hp : pc + 1 = pc') (hZ : Z.Warmed39 s.vm) (eT : T.heap = h) (A : own_Ar Z h a .char vs) (hj : ¬ j < 0) (hv : vs[j.toNatClampNeg]? = some v) (g : own_Go p.tables e below (T.setTop (mkF m pc' Ls (v :: S))) RR) : own_Go p.tables e below (T.setTop (mkF m pc Ls (.int j :: .ref a :: S))) RR := by
  subst hp
  obtain ⟨cl, Ar, -, hin, hat⟩ := A.at hj hv
  exact own_st (fun t k => X.caload hx (j := j) (v := v) (by rw [eT]; exact Ar.1) (State.isArrayOf_alike hZ.alike Ar.2.1) Ar.2.2 hin hat (g := mkF m pc Ls (.int j :: .ref a :: S)) rfl rfl (hb hby hd) t k) g
theorem own_saload (X : Stand p l e R s m args below meth c T locs cells slots) (hx : p.tables.exec = Jvm.exec) {B : ByteArray} (hby : c.code = B) {pc pc' : Nat} {Ls : Array Slot} {S : List Value} {a : Addr} {j : Int32} {v : Value} {vs : List Value} (hd : decode B pc = .ok (.saload, 1)) (hp : pc + 1 = pc') (hZ : Z.Warmed39 s.vm) (eT : T.heap = h) (A : own_Ar Z h a .short vs) (hj : ¬ j < 0) (hv : vs[j.toNatClampNeg]? = some v) (g : own_Go p.tables e below (T.setTop (mkF m pc' Ls (v :: S))) RR) : own_Go p.tables e below (T.setTop (mkF m pc Ls (.int j :: .ref a :: S))) RR := by
  subst hp
  obtain ⟨cl, Ar, -, hin, hat⟩ := A.at hj hv
  exact own_st (fun t k => X.saload hx (j := j) (v := v) (by rw [eT]; exact Ar.1) (State.isArrayOf_alike hZ.alike Ar.2.1) Ar.2.2 hin hat (g := mkF m pc Ls (.int j :: .ref a :: S)) rfl rfl (hb hby hd) t k) g
theorem own_baload (X : Stand p l e R s m args below meth c T locs cells slots) (hx : p.tables.exec = Jvm.exec) {B : ByteArray} (hby : c.code = B) {pc pc' : Nat} {Ls : Array Slot} {S : List Value} {a : Addr} {j : Int32} {v : Value} {vs : List Value} (hd : decode B pc = .ok (.baload, 1)) (hp : pc + 1 = pc') (hZ : Z.Warmed39 s.vm) (eT : T.heap = h) (A : own_Ar Z h a .byte vs) (hj : ¬ j < 0) (hv : vs[j.toNatClampNeg]? = some v) (g : own_Go p.tables e below (T.setTop (mkF m pc' Ls (v :: S))) RR) : own_Go p.tables e below (T.setTop (mkF m pc Ls (.int j :: .ref a :: S))) RR := by
  subst hp
  obtain ⟨cl, Ar, -, hin, hat⟩ := A.at hj hv
  exact own_st (fun t k => X.baloadBytes hx (j := j) (v := v) (by rw [eT]; exact Ar.1) (State.isArrayOf_alike hZ.alike Ar.2.1) Ar.2.2 hin hat (g := mkF m pc Ls (.int j :: .ref a :: S)) rfl rfl (hb hby hd) t k) g
theorem own_aaload (X : Stand p l e R s m args below meth c T locs cells slots) (hx : p.tables.exec = Jvm.exec) {B : ByteArray} (hby : c.code = B) {pc pc' : Nat} {Ls : Array Slot} {S : List Value} {a : Addr} {j : Int32} {v : Value} {vs : List Value} {ty : FieldType} (hty : ty.isReference = true) (hd : decode B pc = .ok (.aaload, 1)) (hp : pc + 1 = pc') (hZ : Z.Warmed39 s.vm) (eT : T.heap = h) (A : own_Ar Z h a ty vs) (hj : ¬ j < 0) (hv : vs[j.toNatClampNeg]? = some v) (g : own_Go p.tables e below (T.setTop (mkF m pc' Ls (v :: S))) RR) : own_Go p.tables e below (T.setTop (mkF m pc Ls (.int j :: .ref a :: S))) RR := by
  subst hp
  obtain ⟨cl, Ar, -, hin, hat⟩ := A.at hj hv
  exact own_st (fun t k => X.aaload hx (j := j) (v := v) (by rw [eT]; exact Ar.1) (State.isArrayOf_alike hZ.alike Ar.2.1) hty Ar.2.2 hin hat (g := mkF m pc Ls (.int j :: .ref a :: S)) rfl rfl (hb hby hd) t k) g
theorem own_iastore (X : Stand p l e R s m args below meth c T locs cells slots) (hx : p.tables.exec = Jvm.exec) {B : ByteArray} (hby : c.code = B) {pc pc' : Nat} {Ls : Array Slot} {S : List Value} {a : Addr} {j : Int32} {x : Int32} {v : Value} {vs : List Value} (hd : decode B pc = .ok (.iastore, 1)) (hp : pc + 1 = pc') (hZ : Z.Warmed39 s.vm) (eT : T.heap = h) (A : own_Ar Z h a .int vs) (hj : ¬ j < 0) (hv : vs[j.toNatClampNeg]? = some v) (g : ∀ (T' : State) (h' : Heap), Stand p l e R s m args below meth c T' (locs ++ [⟨a, j.toNatClampNeg⟩]) cells slots → T'.heap = h' → Wr h h' a j.toNatClampNeg (.int x) → own_Ar Z h' a .int (vs.set j.toNatClampNeg (.int x)) → own_Go p.tables e below (T'.setTop (mkF m pc' Ls S)) RR) : own_Go p.tables e below (T.setTop (mkF m pc Ls ((.int x) :: .int j :: .ref a :: S))) RR := by
  subst hp
  obtain ⟨cl, Ar, r, hin, hat⟩ := A.at hj hv
  obtain ⟨T', h', X', e', W', st⟩ := stI X hx hZ eT Ar (j := j) (x := x) hin (g := mkF m pc Ls ((.int x) :: .int j :: .ref a :: S)) rfl rfl (hb hby hd)
  exact own_st st (g T' h' X' e' W' (A.same W'))
theorem own_lastore (X : Stand p l e R s m args below meth c T locs cells slots) (hx : p.tables.exec = Jvm.exec) {B : ByteArray} (hby : c.code = B) {pc pc' : Nat} {Ls : Array Slot} {S : List Value} {a : Addr} {j : Int32} {x : Int64} {v : Value} {vs : List Value} (hd : decode B pc = .ok (.lastore, 1)) (hp : pc + 1 = pc') (hZ : Z.Warmed39 s.vm) (eT : T.heap = h) (A : own_Ar Z h a .long vs) (hj : ¬ j < 0) (hv : vs[j.toNatClampNeg]? = some v) (g : ∀ (T' : State) (h' : Heap), Stand p l e R s m args below meth c T' (locs ++ [⟨a, j.toNatClampNeg⟩]) cells slots → T'.heap = h' → Wr h h' a j.toNatClampNeg (.long x) → own_Ar Z h' a .long (vs.set j.toNatClampNeg (.long x)) → own_Go p.tables e below (T'.setTop (mkF m pc' Ls S)) RR) : own_Go p.tables e below (T.setTop (mkF m pc Ls ((.long x) :: .int j :: .ref a :: S))) RR := by
  subst hp
  obtain ⟨cl, Ar, r, hin, hat⟩ := A.at hj hv
  obtain ⟨T', h', X', e', W', st⟩ := stJ X hx hZ eT Ar (j := j) (x := x) hin (g := mkF m pc Ls ((.long x) :: .int j :: .ref a :: S)) rfl rfl (hb hby hd)
  exact own_st st (g T' h' X' e' W' (A.same W'))
theorem own_castore (X : Stand p l e R s m args below meth c T locs cells slots) (hx : p.tables.exec = Jvm.exec) {B : ByteArray} (hby : c.code = B) {pc pc' : Nat} {Ls : Array Slot} {S : List Value} {a : Addr} {j : Int32} {x : Int32} {v : Value} {vs : List Value} (hd : decode B pc = .ok (.castore, 1)) (hp : pc + 1 = pc') (hZ : Z.Warmed39 s.vm) (eT : T.heap = h) (A : own_Ar Z h a .char vs) (hj : ¬ j < 0) (hv : vs[j.toNatClampNeg]? = some v) (g : ∀ (T' : State) (h' : Heap), Stand p l e R s m args below meth c T' (locs ++ [⟨a, j.toNatClampNeg⟩]) cells slots → T'.heap = h' → Wr h h' a j.toNatClampNeg (.int (nar .char x)) → own_Ar Z h' a .char (vs.set j.toNatClampNeg (.int (nar .char x))) → own_Go p.tables e below (T'.setTop (mkF m pc' Ls S)) RR) : own_Go p.tables e below (T.setTop (mkF m pc Ls ((.int x) :: .int j :: .ref a :: S))) RR := by
  subst hp
  obtain ⟨cl, Ar, r, hin, hat⟩ := A.at hj hv
  obtain ⟨T', h', X', e', W', st⟩ := stC X hx hZ eT Ar (j := j) (x := x) hin (g := mkF m pc Ls ((.int x) :: .int j :: .ref a :: S)) rfl rfl (hb hby hd)
  exact own_st st (g T' h' X' e' W' (A.same W'))
theorem own_bastore (X : Stand p l e R s m args below meth c T locs cells slots) (hx : p.tables.exec = Jvm.exec) {B : ByteArray} (hby : c.code = B) {pc pc' : Nat} {Ls : Array Slot} {S : List Value} {a : Addr} {j : Int32} {x : Int32} {v : Value} {vs : List Value} (hd : decode B pc = .ok (.bastore, 1)) (hp : pc + 1 = pc') (hZ : Z.Warmed39 s.vm) (eT : T.heap = h) (A : own_Ar Z h a .byte vs) (hj : ¬ j < 0) (hv : vs[j.toNatClampNeg]? = some v) (g : ∀ (T' : State) (h' : Heap), Stand p l e R s m args below meth c T' (locs ++ [⟨a, j.toNatClampNeg⟩]) cells slots → T'.heap = h' → Wr h h' a j.toNatClampNeg (.int x.toInt8.toInt32) → own_Ar Z h' a .byte (vs.set j.toNatClampNeg (.int x.toInt8.toInt32)) → own_Go p.tables e below (T'.setTop (mkF m pc' Ls S)) RR) : own_Go p.tables e below (T.setTop (mkF m pc Ls ((.int x) :: .int j :: .ref a :: S))) RR := by
  subst hp
  obtain ⟨cl, Ar, r, hin, hat⟩ := A.at hj hv
  obtain ⟨T', h', X', e', W', st⟩ := stB X hx hZ eT Ar (j := j) (x := x) hin (g := mkF m pc Ls ((.int x) :: .int j :: .ref a :: S)) rfl rfl (hb hby hd)
  exact own_st st (g T' h' X' e' W' (A.same W'))
theorem own_len (X : Stand p l e R s m args below meth c T locs cells slots) (hx : p.tables.exec = Jvm.exec) {B : ByteArray} (hby : c.code = B) {pc pc' : Nat} {Ls : Array Slot} {S : List Value} {a : Addr} {ty : FieldType} {n : Int32} {vs : List Value} (hd : decode B pc = .ok (.arraylength, 1)) (hp : pc + 1 = pc') (hZ : Z.Warmed39 s.vm) (eT : T.heap = h) (A : own_Ar Z h a ty vs) (hn : vs.length.toInt32 = n) (g : own_Go p.tables e below (T.setTop (mkF m pc' Ls (.int n :: S))) RR) : own_Go p.tables e below (T.setTop (mkF m pc Ls (.ref a :: S))) RR := by
  subst hp hn
  obtain ⟨cl, Ar, r⟩ := A
  subst r
  exact own_st (fun t k => X.arraylength hx (by rw [eT]; exact Ar.1) (State.isArrayOf_alike hZ.alike Ar.2.1) (g := mkF m pc Ls (.ref a :: S)) rfl rfl (hb hby hd) t (by rw [← Array.length_toList]; exact k)) g
theorem own_clone (X : Stand p l e R s m args below meth c T locs cells slots) (hx : p.tables.exec = Jvm.exec) {B : ByteArray} (hby : c.code = B) {pc pc' : Nat} {Ls : Array Slot} {S : List Value} {own ad : String} {index : Nat} {a : Addr} {cl : Cell} {ty : FieldType} (hd : decode B pc = .ok (.invokevirtual index, 3)) (hp : pc + 3 = pc') (hZ : Z.Warmed39 s.vm) (hown : s.vm.findClass own = some m.cls) (w1 : (Cond.methodLink own index ⟨ad, "clone", "()Ljava/lang/Object;"⟩).before a0 Z = true) (w2 : (Cond.sameMethod ad "java/lang/Object" "clone" "()Ljava/lang/Object;").before a0 Z = true) (w3 : (Cond.native ⟨"java/lang/Object", "clone", "()Ljava/lang/Object;"⟩).before a0 Z = true) (w4 : (Cond.instanceMethod ⟨"java/lang/Object", "clone", "()Ljava/lang/Object;"⟩).before a0 Z = true) (w5 : (Cond.selects ad ⟨ad, "clone", "()Ljava/lang/Object;"⟩ ⟨"java/lang/Object", "clone", "()Ljava/lang/Object;"⟩).before a0 Z = true) (w6 : (Cond.castable ad "java/lang/Cloneable").before a0 Z = true) (eT : T.heap = h) (A : Arr Z h a cl ty) (E : Exa Z h a ad) (F : FitC Z cl) (hsz : Ls.size = c.maxLocals) (hf : 1 ≤ R.frames) {W cap : Nat} (hW : (S.map fun v => v.category).sum ≤ W) (hl : W + 14 ≤ R.locals) (hcap : cl.slots.size ≤ cap) (hc : cells + 1 ≤ R.cells) (hsl : slots + cap ≤ R.slots) (g : ∀ (T' : State) (h' : Heap) (b : Addr), Stand p l e R s m args below meth c T' locs (cells + 1) (slots + cap) → T'.heap = h' → b = h.size → Ext h h' → Arr Z h' b (cloneOf cl) ty → Exa Z h' b ad → own_Go p.tables e below (T'.setTop (mkF m pc' Ls (.ref b :: S))) RR) : own_Go p.tables e below (T.setTop (mkF m pc Ls (.ref a :: S))) RR := by
  subst hp
  obtain ⟨T', h', X', e', E', A', F', st⟩ := cloneA X hx hZ hown w1 w2 w3 w4 w5 w6 eT A E F (g := mkF m pc Ls (.ref a :: S)) rfl hsz rfl (hb hby hd) hf (W := W) (by show 2 * 0 + _ ≤ _; omega) hl hcap hc hsl
  exact own_st st (g T' h' _ X' e' rfl E' A' F')
theorem own_Ar.arv {a : Addr} {ty : FieldType} {vs : List Value} {dv : Value} (F : own_Ar Z h a ty vs) (hl : vs.length < 2 ^ 31) (hf : ∀ v ∈ vs, fits ty v = true) : ∃ k, vs.length.toInt32.toNatClampNeg = vs.length ∧ Arv Z h a k ty vs.length.toInt32 vs dv := by
  obtain ⟨c, A, r⟩ := F
  subst r
  have e : c.slots.toList.length = c.slots.size := Array.length_toList
  have i : c.slots.size.toInt32.toInt = (c.slots.size : Int) := len_toInt (by rw [← e]; exact hl)
  have z : c.slots.size.toInt32.toNatClampNeg = c.slots.size := by simp only [Int32.toNatClampNeg, i]; rfl
  have g : ∀ k, k < c.slots.size → c.slots[k]? = some (c.slots.toList.getD k dv) := fun k hk => by
    rw [List.getD_eq_getElem?_getD, Array.getElem?_toList, Array.getElem?_eq_getElem hk]; rfl
  rw [e]
  refine ⟨c.cls, z, c, A, rfl, z.symm, ?_, g, fun k hk => ?_⟩
  · intro q
    have q' := Int32.lt_iff_toInt_lt.mp q
    rw [i] at q'
    have z0 : (0 : Int32).toInt = 0 := rfl
    omega
  · have q := g k hk
    refine hf _ ?_
    rw [← Array.getElem?_toList] at q
    exact List.mem_of_getElem? q
theorem own_Ar.of_arv {a : Addr} {k : ClassId} {z : Int32} {ty : FieldType} {vs : List Value} {dv : Value} (F : Arv Z h a k ty z vs dv) (hl : vs.length = z.toNatClampNeg) : own_Ar Z h a ty vs := by
  obtain ⟨c, A, -, S, -, H, -⟩ := F
  refine ⟨c, A, ?_⟩
  apply List.ext_getElem?
  intro i
  rw [Array.getElem?_toList]
  by_cases q : i < c.slots.size
  · rw [H i q, List.getD_eq_getElem?_getD, List.getElem?_eq_getElem (by omega)]; rfl
  · rw [Array.getElem?_eq_none (by omega), List.getElem?_eq_none (by omega)]
theorem own_range {vs : List Value} {dv : Value} : ∀ (n sp : Nat), sp + n ≤ vs.length → ((List.range n).map fun i => vs.getD (sp + i) dv) = (vs.drop sp).take n := by
  intro n sp hle
  apply List.ext_getElem?
  intro i
  by_cases q : i < n
  · rw [List.getElem?_map, List.getElem?_range q, List.getElem?_take_of_lt q, List.getElem?_drop, List.getElem?_eq_getElem (by omega)]
    simp only [Option.map_some]
    rw [List.getD_eq_getElem?_getD, List.getElem?_eq_getElem (by omega)]; rfl
  · rw [List.getElem?_eq_none (by simp; omega), List.getElem?_eq_none (by simp; omega)]
theorem own_cp (X : Stand p l e R s m args below meth c T locs cells slots) (hx : p.tables.exec = Jvm.exec) {B : ByteArray} (hby : c.code = B) {pc pc' : Nat} {Ls : Array Slot} {S : List Value} {own : String} {index : Nat} {a b : Addr} {sp dp nn : Int32} {vs vd us : List Value} (hd : decode B pc = .ok (.invokestatic index, 3)) (hp : pc + 3 = pc') (hZ : Z.Warmed39 s.vm) (hown : s.vm.findClass own = some m.cls) (w1 : (Cond.methodLink own index Jvm.Stand.acN).before a0 Z = true) (w2 : (Cond.native Jvm.Stand.acN).before a0 Z = true) (w3 : (Cond.static Jvm.Stand.acN).before a0 Z = true) (w4 : (Cond.initialized "java/lang/System").before a0 Z = true) (eT : T.heap = h) {ty : FieldType} (hty : refKind ty = false) (A : own_Ar Z h a ty vs) (D : own_Ar Z h b ty vd) (hA : ∀ v ∈ vs, fits ty v = true) (hD : ∀ v ∈ vd, fits ty v = true) (h1 : ¬ sp < 0) (h2 : ¬ dp < 0) (h3 : ¬ nn < 0) (h4 : sp.toNatClampNeg + nn.toNatClampNeg ≤ vs.length) (h5 : dp.toNatClampNeg + nn.toNatClampNeg ≤ vd.length) (lA : vs.length < 2 ^ 31) (lD : vd.length < 2 ^ 31) (hus : vd.take dp.toNatClampNeg ++ (vs.drop sp.toNatClampNeg).take nn.toNatClampNeg ++ vd.drop (dp.toNatClampNeg + nn.toNatClampNeg) = us) {n0 : Nat} (N : Fr n0 locs) (ge : n0 ≤ b) (hsz : Ls.size = c.maxLocals) (hf : 1 ≤ R.frames) {W : Nat} (hW : (S.map fun v => v.category).sum ≤ W) (hlo : W + (nativeFrameWords "java/lang/System" "arraycopy" 5 + 11) ≤ R.locals) (g : ∀ (T' : State) (h' : Heap) (L : List Loc), Stand p l e R s m args below meth c T' L cells slots → T'.heap = h' → Fr n0 L → Keep h h' [b] → own_Ar Z h' b ty us → own_Go p.tables e below (T'.setTop (mkF m pc' Ls S)) RR) : own_Go p.tables e below (T.setTop (mkF m pc Ls (.int nn :: .int dp :: .ref b :: .int sp :: .ref a :: S))) RR := by
  subst hp
  obtain ⟨k, q1, A'⟩ := A.arv (dv := .null) lA hA
  obtain ⟨k', q2, D'⟩ := D.arv (dv := .null) lD hD
  obtain ⟨T', h', L, X', e', N', K', B', st⟩ := cpA X hx hZ hown w1 w2 w3 w4 eT A' D' (Or.inl ⟨rfl, hty⟩) h1 h2 h3 (by rw [q1]; exact h4) (by rw [q2]; exact h5) rfl h5 N ge (g := mkF m pc Ls (.int nn :: .int dp :: .ref b :: .int sp :: .ref a :: S)) rfl hsz rfl (hb hby hd) hf (W := W) (by show 2 * 0 + _ ≤ _; omega) hlo
  rw [own_range _ _ h4, hus] at B'
  refine own_st st (g T' h' L X' e' N' K' (own_Ar.of_arv B' ?_))
  rw [q2, ← hus]
  simp only [List.length_append, List.length_take, List.length_drop]
  omega
theorem own_callSpB (X : Stand p l e R s m args below meth c T locs cells slots) (hx : p.tables.exec = Jvm.exec) (hZ : Z.Warmed39 s.vm) {y : MethodName} {rc rs : Nat} {W : Nat} {as' : Array Value} (hK : Back l R p e below s args y 3 W (fun A a => a = as' ∧ A.U.heap = h ∧ A.cells + rc ≤ R.cells ∧ A.slots + rs ≤ R.slots) (fun A _ v B => ∃ L, Q v B.U.heap L ∧ B.locs = A.locs ++ L ∧ B.cells = A.cells + rc ∧ B.slots = A.slots + rs)) (hin : y.name = "<init>") {own : String} {index : Nat} (hown : s.vm.findClass own = some m.cls) (w1 : (Cond.methodLink own index y).before a0 Z = true) (w4 : (Cond.instanceMethod y).before a0 Z = true) {bytes : ByteArray} {maxL : Nat} (w5 : (Cond.code y bytes maxL none).before a0 Z = true) (hy : y.cls ≠ "java/lang/invoke/MethodHandle" ∧ y.cls ≠ "java/lang/invoke/VarHandle") {a : Addr} {pc : Nat} {Ls : Array Slot} (hsz : Ls.size = c.maxLocals) {argsL rest st : List Value} (ha : (Value.ref a :: argsL).toArray = as') (hlen : ∀ sig, parseMethodDescriptor y.desc = some sig → argsL.length = sig.parameters.length) (hst : st = argsL.reverse ++ .ref a :: rest) (hW : (rest.map fun v => v.category).sum ≤ W) (hd : decode c.code pc = .ok (.invokespecial index, 3)) (eT : T.heap = h) (hc : cells + rc ≤ R.cells) (hs : slots + rs ≤ R.slots) (k : ∀ (v : Option Value) (T' : State) (L : List Loc), Stand p l e R s m args below meth c T' (locs ++ L) (cells + rc) (slots + rs) → Q v T'.heap L → own_Go p.tables e below (T'.setTop (mkF m (pc + 3) Ls (v.toList ++ rest))) RR) :
    own_Go p.tables e below (T.setTop (mkF m pc Ls st)) RR := by
  subst ha
  obtain ⟨v, _, ⟨T', L', k', n'⟩, -, X', ⟨Lc, hQ, l', y', z'⟩, stp⟩ := X.specialBack hx (y := y) hin hown (mvT hZ w1) (mvT hZ w4) (mvT hZ w5) hy hK (g := mkF m pc Ls st) rfl hsz (Steps.refl _) (a := a) (argsL := argsL) (rest := rest) hlen hst (by show 2 * 0 + _ ≤ _; omega) hd (fun _ _ => ⟨rfl, eT, hc, hs⟩)
  dsimp only [Pt.U, Pt.locs, Pt.cells, Pt.slots] at X' l' y' z' stp hQ
  subst l' y' z'
  exact own_st (fun t k => stp.trans k) (k v T' Lc X' hQ)
theorem own_callVB (X : Stand p l e R s m args below meth c T locs cells slots) (hx : p.tables.exec = Jvm.exec) (hZ : Z.Warmed39 s.vm) {y : MethodName} {rc rs : Nat} {W : Nat} {as' : Array Value} (hK : Back l R p e below s args y 3 W (fun A a => a = as' ∧ A.U.heap = h ∧ A.cells + rc ≤ R.cells ∧ A.slots + rs ≤ R.slots) (fun A _ v B => ∃ L, Q v B.U.heap L ∧ B.locs = A.locs ++ L ∧ B.cells = A.cells + rc ∧ B.slots = A.slots + rs)) {own C : String} {index : Nat} (hown : s.vm.findClass own = some m.cls) (w1 : (Cond.methodLink own index y).before a0 Z = true) (w2 : (Cond.declares y).before a0 Z = true) (w3 : (Cond.selects C y y).before a0 Z = true) (w4 : (Cond.instanceMethod y).before a0 Z = true) (hy : y.cls ≠ "java/lang/invoke/MethodHandle" ∧ y.cls ≠ "java/lang/invoke/VarHandle") {a : Addr} (E : Exa Z h a C) {pc : Nat} {Ls : Array Slot} (hsz : Ls.size = c.maxLocals) {argsL rest st : List Value} (ha : (Value.ref a :: argsL).toArray = as') (hlen : ∀ sig, parseMethodDescriptor y.desc = some sig → argsL.length = sig.parameters.length) (hst : st = argsL.reverse ++ .ref a :: rest) (hW : (rest.map fun v => v.category).sum ≤ W) (hd : decode c.code pc = .ok (.invokevirtual index, 3)) (eT : T.heap = h) (hc : cells + rc ≤ R.cells) (hs : slots + rs ≤ R.slots) (k : ∀ (v : Option Value) (T' : State) (L : List Loc), Stand p l e R s m args below meth c T' (locs ++ L) (cells + rc) (slots + rs) → Q v T'.heap L → own_Go p.tables e below (T'.setTop (mkF m (pc + 3) Ls (v.toList ++ rest))) RR) :
    own_Go p.tables e below (T.setTop (mkF m pc Ls st)) RR := by
  subst ha
  obtain ⟨cB, kB, qa, qb, qc⟩ := isOf hZ eT E
  obtain ⟨v, _, ⟨T', L', k', n'⟩, -, X', ⟨Lc, hQ, l', y', z'⟩, stp⟩ := X.virtualBack hx (y := y) (z := y) hown (mvT hZ w1) (mvT hZ w2) (notFace_of_selects (args := #[]) (mvT hZ w3)) (mvT hZ w3) (mvT hZ w4) hy hK qa qc (g := mkF m pc Ls st) rfl hsz (Steps.refl _) (argsL := argsL) (rest := rest) hlen hst (by show 2 * 0 + _ ≤ _; omega) hd (fun _ _ => ⟨rfl, eT, hc, hs⟩)
  dsimp only [Pt.U, Pt.locs, Pt.cells, Pt.slots] at X' l' y' z' stp hQ
  subst l' y' z'
  exact own_st (fun t k => stp.trans k) (k v T' Lc X' hQ)
theorem own_callSB (X : Stand p l e R s m args below meth c T locs cells slots) (hx : p.tables.exec = Jvm.exec) (hZ : Z.Warmed39 s.vm) {y : MethodName} {rc rs : Nat} {W : Nat} {as' : Array Value} (hK : Back l R p e below s args y 3 W (fun A a => a = as' ∧ A.U.heap = h ∧ A.cells + rc ≤ R.cells ∧ A.slots + rs ≤ R.slots) (fun A _ v B => ∃ L, Q v B.U.heap L ∧ B.locs = A.locs ++ L ∧ B.cells = A.cells + rc ∧ B.slots = A.slots + rs)) {own : String} {index : Nat} (hown : s.vm.findClass own = some m.cls) (w1 : (Cond.methodLink own index y).before a0 Z = true) (w2 : (Cond.static y).before a0 Z = true) (w3 : (Cond.initialized y.cls).before a0 Z = true) {bytes : ByteArray} {maxL : Nat} {rt : Option FieldType} (w4 : (Cond.code y bytes maxL rt).before a0 Z = true) (hy : y.cls ≠ "java/lang/invoke/MethodHandle" ∧ y.cls ≠ "java/lang/invoke/VarHandle") {pc : Nat} {Ls : Array Slot} (hsz : Ls.size = c.maxLocals) {argsL rest st : List Value} (ha : argsL.toArray = as') (hlen : ∀ sig, parseMethodDescriptor y.desc = some sig → argsL.length = sig.parameters.length) (hst : st = argsL.reverse ++ rest) (hW : (rest.map fun v => v.category).sum ≤ W) (hd : decode c.code pc = .ok (.invokestatic index, 3)) (eT : T.heap = h) (hc : cells + rc ≤ R.cells) (hs : slots + rs ≤ R.slots) (k : ∀ (v : Option Value) (T' : State) (L : List Loc), Stand p l e R s m args below meth c T' (locs ++ L) (cells + rc) (slots + rs) → Q v T'.heap L → own_Go p.tables e below (T'.setTop (mkF m (pc + 3) Ls (v.toList ++ rest))) RR) :
    own_Go p.tables e below (T.setTop (mkF m pc Ls st)) RR := by
  subst ha
  obtain ⟨v, _, ⟨T', L', k', n'⟩, -, X', ⟨Lc, hQ, l', y', z'⟩, stp⟩ := Jvm.LawKit.callS X hx (y := y) hown (mvT hZ w1) (mvT hZ w2) (mvT hZ w3) (mvT hZ w4) hy hK (g := mkF m pc Ls st) rfl hsz (argsL := argsL) (rest := rest) hlen hst (by show 2 * 0 + _ ≤ _; omega) hd (fun _ _ => ⟨rfl, eT, hc, hs⟩)
  dsimp only [Pt.U, Pt.locs, Pt.cells, Pt.slots] at X' l' y' z' stp hQ
  subst l' y' z'
  exact own_st stp (k v T' Lc X' hQ)
end Own
theorem own_nar0 : nar .boolean (0 : Int32) = 0 := by decide
theorem own_nar1 : nar .boolean (1 : Int32) = 1 := by decide
def own_min (a b : Int32) : Int32 := if b < a then b else a
def own_up (c d : Int32) : Int32 := if 0 < d then c + 1 else c
def own_nx (cs : List Value) (j c d : Int32) : List Value := if 0 < d then cs.set j.toNatClampNeg (.int (c + 1)) else cs
def own_pr (p y : Int32) : Int32 := if p = 0 then 0 else if 0 < y then 1 else 0
def own_ex (n y1 y2 y3 : Int32) : Int32 := (own_pr (if 0 < n then 1 else 0) y1 + own_pr (if 1 < n then 1 else 0) y2) + own_pr (if 2 < n then 1 else 0) y3
theorem own_pr0 (y : Int32) : own_pr 0 y = 0 := rfl
theorem own_pr1 (y : Int32) : own_pr 1 y = own_up 0 y := by
  unfold own_pr own_up; rw [if_neg (by decide)]; split <;> first | rfl | decide
theorem own_fin0 {n y1 y2 y3 : Int32} (h0 : ¬ 0 < n) (h1 : ¬ 1 < n) (h2 : ¬ 2 < n) : (0 : Int32) = own_ex n y1 y2 y3 := by
  simp only [own_ex, h0, h1, h2, if_false, own_pr0]; decide
theorem own_up0 (y : Int32) : own_up 0 y = 0 ∨ own_up 0 y = 1 := by
  simp only [own_up]; split
  · right; decide
  · left; rfl
theorem own_upadd (c y : Int32) (hc : c = 0 ∨ c = 1 ∨ c = 2) : own_up c y = c + own_up 0 y := by
  simp only [own_up]
  rcases hc with rfl | rfl | rfl <;> split <;> decide
theorem own_fin1 {n y1 y2 y3 : Int32} (h0 : 0 < n) (h1 : ¬ 1 < n) (h2 : ¬ 2 < n) : own_up 0 y1 = own_ex n y1 y2 y3 := by
  simp only [own_ex, h0, h1, h2, if_true, if_false, own_pr0, own_pr1]
  rcases own_up0 y1 with q | q <;> rw [q] <;> decide
theorem own_fin2 {n y1 y2 y3 : Int32} (h0 : 0 < n) (h1 : 1 < n) (h2 : ¬ 2 < n) : own_up (own_up 0 y1) y2 = own_ex n y1 y2 y3 := by
  simp only [own_ex, h0, h1, h2, if_true, if_false, own_pr0, own_pr1]
  rw [own_upadd _ y2 (by rcases own_up0 y1 with q | q <;> simp [q])]
  rcases own_up0 y1 with q | q <;> rcases own_up0 y2 with r | r <;> rw [q, r] <;> decide
theorem own_fin3 {n y1 y2 y3 : Int32} (h0 : 0 < n) (h1 : 1 < n) (h2 : 2 < n) : own_up (own_up (own_up 0 y1) y2) y3 = own_ex n y1 y2 y3 := by
  simp only [own_ex, h0, h1, h2, if_true, own_pr1]
  have q2 : own_up (own_up 0 y1) y2 = own_up 0 y1 + own_up 0 y2 := own_upadd _ y2 (by rcases own_up0 y1 with q | q <;> simp [q])
  rw [own_upadd _ y3 (by rw [q2]; rcases own_up0 y1 with q | q <;> rcases own_up0 y2 with r | r <;> rw [q, r] <;> decide), q2]
theorem own_no1 {n : Int32} (h0 : ¬ 0 < n) (h1 : 1 < n) : False := by
  rw [Int32.lt_iff_toInt_lt] at h0 h1
  have e0 : (0 : Int32).toInt = 0 := rfl
  have e1 : (1 : Int32).toInt = 1 := rfl
  omega
theorem own_no2 {n : Int32} (h0 : ¬ 1 < n) (h1 : 2 < n) : False := by
  rw [Int32.lt_iff_toInt_lt] at h0 h1
  have e0 : (2 : Int32).toInt = 2 := rfl
  have e1 : (1 : Int32).toInt = 1 := rfl
  omega
theorem own_pn0 : plainFor x = true := plainFor_of_name (by first | (simp [x, plainName, overriddenIn]; done) | decide +kernel)
theorem own_pn1 : plainFor (⟨"com/example/tag_weighted_rank/tagweightedrank/PostingsClassSizesPinLaw", "counts", "(I)[I"⟩ : MethodName) = true := plainFor_of_name (by first | (simp [plainName, overriddenIn]; done) | decide +kernel)
theorem own_pn2 : plainFor (⟨"com/example/tag_weighted_rank/tagweightedrank/PostingsClassSizesPinLaw", "marks", "(II[I)[I"⟩ : MethodName) = true := plainFor_of_name (by first | (simp [plainName, overriddenIn]; done) | decide +kernel)
theorem own_pn3 : plainFor (⟨"java/lang/Math", "min", "(II)I"⟩ : MethodName) = true := Jvm.Free.JP.mathPlain rfl (by decide +kernel)
theorem own_pn4 : plainFor (⟨"com/example/tag_weighted_rank/tagweightedrank/Postings", "<init>", "()V"⟩ : MethodName) = true := plainFor_of_name (by first | (simp [plainName, overriddenIn]; done) | decide +kernel)
theorem own_pn5 : plainFor (⟨"com/example/tag_weighted_rank/tagweightedrank/Postings", "<init>", "([II)V"⟩ : MethodName) = true := plainFor_of_name (by first | (simp [plainName, overriddenIn]; done) | decide +kernel)
theorem own_pn7 : plainFor (⟨"com/example/tag_weighted_rank/tagweightedrank/Postings", "classSizes", "()[I"⟩ : MethodName) = true := plainFor_of_name (by first | (simp [plainName, overriddenIn]; done) | decide +kernel)
theorem own_pn8 : plainFor (⟨"com/example/tag_weighted_rank/tagweightedrank/PostingsClassSizesPinLaw", "expected", "([I[I[III)I"⟩ : MethodName) = true := plainFor_of_name (by first | (simp [plainName, overriddenIn]; done) | decide +kernel)
theorem own_pn9 : plainFor (⟨"com/example/tag_weighted_rank/tagweightedrank/PostingsClassSizesPinLaw", "one", "([IIZ)I"⟩ : MethodName) = true := plainFor_of_name (by first | (simp [plainName, overriddenIn]; done) | decide +kernel)
theorem own_pn10 : plainFor (⟨"com/example/tag_weighted_rank/tagweightedrank/Postings", "add", "(I[I[I)V"⟩ : MethodName) = true := plainFor_of_name (by first | (simp [plainName, overriddenIn]; done) | decide +kernel)
theorem own_pn11 : plainFor (⟨"java/util/Arrays", "copyOf", "([II)[I"⟩ : MethodName) = true := plainFor_of_name (by first | (simp [plainName, overriddenIn]; done) | decide +kernel)
theorem own_d3_0 : decode jdk_29_method_69_code 0 = .ok (.iload_n 0, 1) := by decide +kernel
theorem own_d3_1 : decode jdk_29_method_69_code 1 = .ok (.iload_n 1, 1) := by decide +kernel
theorem own_d3_2 : decode jdk_29_method_69_code 2 = .ok (.if_icmp .gt 7, 3) := by decide +kernel
theorem own_d3_5 : decode jdk_29_method_69_code 5 = .ok (.iload_n 0, 1) := by decide +kernel
theorem own_d3_6 : decode jdk_29_method_69_code 6 = .ok (.goto 4, 3) := by decide +kernel
theorem own_d3_9 : decode jdk_29_method_69_code 9 = .ok (.iload_n 1, 1) := by decide +kernel
theorem own_d3_10 : decode jdk_29_method_69_code 10 = .ok (.ireturn, 1) := by decide +kernel
theorem own_ef_rm_min (m : MethodId) (p1 : Int32) (p2 : Int32) : entryFrame m #[(.int p1), (.int p2)] 2 = mkF m 0 #[.val (.int p1), .val (.int p2)] [] := by first | (simp [entryFrame, mkF, argsToLocals, Value.category]; done) | rfl
def Qrm_min (Z : State) (p1 : Int32) (p2 : Int32) (h0 : Heap) (n0 : Nat) (v : Option Value) (h : Heap) (L : List Loc) : Prop := v = some (.int (own_min p1 p2)) ∧ Fr n0 L ∧ h = h0
set_option maxRecDepth 65536 in
set_option maxHeartbeats 40000000 in
theorem rm_min (l : Launch) (Z : State) (a0 : Array Value) (hw : ∀ d ∈ tables_1, d.before a0 Z = true) (ws : List Jvm.Cond) (p1 : Int32) (p2 : Int32) (h0 : Heap) (n0 : Nat) :
    own_Met l (⟨"java/lang/Math", "min", "(II)I"⟩ : MethodName) jdk_29_method_69_code 2 (some .int) ws ({ frames := 0, cells := 0, slots := 0, locals := 0 } : Room) #[(.int p1), (.int p2)] Z h0 (Qrm_min Z p1 p2 h0 n0) := by
  refine own_body own_pn3 ?_
  intro p e s m below meth c T0 X0 hx hby hml hown hnm hret hlk hZ e0
  have N0 := Fr.nil n0
  refine own_st (fun t k => castTop (own_ef_rm_min m p1 p2) k) ?_
  show own_Go p.tables e below (T0.setTop (mkF m 0 #[.val (.int p1), .val (.int p2)] [])) _
  refine own_iloadN X0 hx hby own_d3_0 (pc' := 1) rfl rfl ?_
  refine own_iloadN X0 hx hby own_d3_1 (pc' := 2) rfl rfl ?_
  by_cases hc2 : p2 < p1
  · skip
    refine own_icmpYes X0 hx hby own_d3_2 (pc' := 9) (by decide) (tlt hc2).2.2.1 ?_
    refine own_iloadN X0 hx hby own_d3_9 (pc' := 10) rfl rfl ?_
    exact own_retI X0 hx hret (hb hby own_d3_10) hlk (by decide) (by decide) ⟨congrArg (fun z => some (Value.int z)) (by simp [own_min, hc2]), N0, e0⟩
  · skip
    refine own_icmpNo X0 hx hby own_d3_2 (pc' := 5) rfl (flt hc2).2.2.1 ?_
    refine own_iloadN X0 hx hby own_d3_5 (pc' := 6) rfl rfl ?_
    refine own_goto X0 hx hby own_d3_6 (pc' := 10) (by decide) ?_
    exact own_retI X0 hx hret (hb hby own_d3_10) hlk (by decide) (by decide) ⟨congrArg (fun z => some (Value.int z)) (by simp [own_min, hc2]), N0, e0⟩
theorem own_d1_0 : decode method_3_code 0 = .ok (.bipush 6, 2) := by decide +kernel
theorem own_d1_2 : decode method_3_code 2 = .ok (.newarray .int, 2) := by decide +kernel
theorem own_d1_4 : decode method_3_code 4 = .ok (.dup, 1) := by decide +kernel
theorem own_d1_5 : decode method_3_code 5 = .ok (.iconst 0, 1) := by decide +kernel
theorem own_d1_6 : decode method_3_code 6 = .ok (.iload_n 0, 1) := by decide +kernel
theorem own_d1_7 : decode method_3_code 7 = .ok (.bipush 31, 2) := by decide +kernel
theorem own_d1_9 : decode method_3_code 9 = .ok (.iand, 1) := by decide +kernel
theorem own_d1_10 : decode method_3_code 10 = .ok (.iastore, 1) := by decide +kernel
theorem own_d1_11 : decode method_3_code 11 = .ok (.dup, 1) := by decide +kernel
theorem own_d1_12 : decode method_3_code 12 = .ok (.iconst 1, 1) := by decide +kernel
theorem own_d1_13 : decode method_3_code 13 = .ok (.iload_n 0, 1) := by decide +kernel
theorem own_d1_14 : decode method_3_code 14 = .ok (.iconst 5, 1) := by decide +kernel
theorem own_d1_15 : decode method_3_code 15 = .ok (.iushr, 1) := by decide +kernel
theorem own_d1_16 : decode method_3_code 16 = .ok (.bipush 31, 2) := by decide +kernel
theorem own_d1_18 : decode method_3_code 18 = .ok (.iand, 1) := by decide +kernel
theorem own_d1_19 : decode method_3_code 19 = .ok (.iastore, 1) := by decide +kernel
theorem own_d1_20 : decode method_3_code 20 = .ok (.dup, 1) := by decide +kernel
theorem own_d1_21 : decode method_3_code 21 = .ok (.iconst 2, 1) := by decide +kernel
theorem own_d1_22 : decode method_3_code 22 = .ok (.iload_n 0, 1) := by decide +kernel
theorem own_d1_23 : decode method_3_code 23 = .ok (.bipush 10, 2) := by decide +kernel
theorem own_d1_25 : decode method_3_code 25 = .ok (.iushr, 1) := by decide +kernel
theorem own_d1_26 : decode method_3_code 26 = .ok (.bipush 31, 2) := by decide +kernel
theorem own_d1_28 : decode method_3_code 28 = .ok (.iand, 1) := by decide +kernel
theorem own_d1_29 : decode method_3_code 29 = .ok (.iastore, 1) := by decide +kernel
theorem own_d1_30 : decode method_3_code 30 = .ok (.dup, 1) := by decide +kernel
theorem own_d1_31 : decode method_3_code 31 = .ok (.iconst 3, 1) := by decide +kernel
theorem own_d1_32 : decode method_3_code 32 = .ok (.iload_n 0, 1) := by decide +kernel
theorem own_d1_33 : decode method_3_code 33 = .ok (.bipush 15, 2) := by decide +kernel
theorem own_d1_35 : decode method_3_code 35 = .ok (.iushr, 1) := by decide +kernel
theorem own_d1_36 : decode method_3_code 36 = .ok (.bipush 31, 2) := by decide +kernel
theorem own_d1_38 : decode method_3_code 38 = .ok (.iand, 1) := by decide +kernel
theorem own_d1_39 : decode method_3_code 39 = .ok (.iastore, 1) := by decide +kernel
theorem own_d1_40 : decode method_3_code 40 = .ok (.dup, 1) := by decide +kernel
theorem own_d1_41 : decode method_3_code 41 = .ok (.iconst 4, 1) := by decide +kernel
theorem own_d1_42 : decode method_3_code 42 = .ok (.iload_n 0, 1) := by decide +kernel
theorem own_d1_43 : decode method_3_code 43 = .ok (.bipush 20, 2) := by decide +kernel
theorem own_d1_45 : decode method_3_code 45 = .ok (.iushr, 1) := by decide +kernel
theorem own_d1_46 : decode method_3_code 46 = .ok (.bipush 31, 2) := by decide +kernel
theorem own_d1_48 : decode method_3_code 48 = .ok (.iand, 1) := by decide +kernel
theorem own_d1_49 : decode method_3_code 49 = .ok (.iastore, 1) := by decide +kernel
theorem own_d1_50 : decode method_3_code 50 = .ok (.dup, 1) := by decide +kernel
theorem own_d1_51 : decode method_3_code 51 = .ok (.iconst 5, 1) := by decide +kernel
theorem own_d1_52 : decode method_3_code 52 = .ok (.iload_n 0, 1) := by decide +kernel
theorem own_d1_53 : decode method_3_code 53 = .ok (.bipush 25, 2) := by decide +kernel
theorem own_d1_55 : decode method_3_code 55 = .ok (.iushr, 1) := by decide +kernel
theorem own_d1_56 : decode method_3_code 56 = .ok (.bipush 31, 2) := by decide +kernel
theorem own_d1_58 : decode method_3_code 58 = .ok (.iand, 1) := by decide +kernel
theorem own_d1_59 : decode method_3_code 59 = .ok (.iastore, 1) := by decide +kernel
theorem own_d1_60 : decode method_3_code 60 = .ok (.areturn, 1) := by decide +kernel
theorem own_ef_rm_ct (m : MethodId) (p1 : Int32) : entryFrame m #[(.int p1)] 1 = mkF m 0 #[.val (.int p1)] [] := by first | (simp [entryFrame, mkF, argsToLocals, Value.category]; done) | rfl
def Qrm_ct (Z : State) (p1 : Int32) (h0 : Heap) (n0 : Nat) (v : Option Value) (h : Heap) (L : List Loc) : Prop := ∃ b y0 y1 y2 y3 y4 y5, v = some (.ref b) ∧ Fr n0 L ∧ Keep h0 h [] ∧ h0.size ≤ b ∧ own_Ar Z h b .int [(.int y0), (.int y1), (.int y2), (.int y3), (.int y4), (.int y5)]
set_option maxRecDepth 65536 in
set_option maxHeartbeats 40000000 in
theorem rm_ct (l : Launch) (Z : State) (a0 : Array Value) (hw : ∀ d ∈ tables_1, d.before a0 Z = true) (ws : List Jvm.Cond) (p1 : Int32) (h0 : Heap) (n0 : Nat) (Z0 : n0 ≤ h0.size) :
    own_Met l (⟨"com/example/tag_weighted_rank/tagweightedrank/PostingsClassSizesPinLaw", "counts", "(I)[I"⟩ : MethodName) method_3_code 1 (some (.array .int)) ws ({ frames := 0, cells := 1, slots := 6, locals := 0 } : Room) #[(.int p1)] Z h0 (Qrm_ct Z p1 h0 n0) := by
  refine own_body own_pn1 ?_
  intro p e s m below meth c T0 X0 hx hby hml hown hnm hret hlk hZ e0
  have N0 := Fr.nil n0
  refine own_st (fun t k => castTop (own_ef_rm_ct m p1) k) ?_
  show own_Go p.tables e below (T0.setTop (mkF m 0 #[.val (.int p1)] [])) _
  refine own_bipush X0 hx hby own_d1_0 (pc' := 2) rfl (z := (6 : Int32)) (by decide) ?_
  refine own_newA X0 hx hby own_d1_2 (pc' := 4) rfl hZ (hw _ (List.mem_of_getElem? (i := 4) rfl)) e0 (by decide) (cap := 6) (by decide) (by decide) (by decide) (by decide) (vs := [(.int (0 : Int32)), (.int (0 : Int32)), (.int (0 : Int32)), (.int (0 : Int32)), (.int (0 : Int32)), (.int (0 : Int32))]) (by rfl) ?_
  intro T1 h1 b1 X1 e1 g1 E1 A1
  have l1 : n0 ≤ b1 := (Nat.le_trans Z0 (Nat.le_trans (Nat.le_refl _) (Nat.le_of_eq g1.symm)))
  refine own_dup X1 hx hby own_d1_4 (pc' := 5) rfl rfl ?_
  refine own_iconst X1 hx hby own_d1_5 (pc' := 6) rfl (z := (0 : Int32)) (by decide) ?_
  refine own_iloadN X1 hx hby own_d1_6 (pc' := 7) rfl rfl ?_
  refine own_bipush X1 hx hby own_d1_7 (pc' := 9) rfl (z := (31 : Int32)) (by decide) ?_
  refine own_iand X1 hx hby own_d1_9 (pc' := 10) rfl rfl ?_
  refine own_iastore X1 hx hby own_d1_10 (pc' := 11) rfl hZ e1 (A1) (by decide) (v := (.int (0 : Int32))) rfl ?_
  intro T2 h2 X2 e2 W2 A2
  have B2 : own_Ar Z h2 b1 .int [(.int (p1 &&& (31 : Int32))), (.int (0 : Int32)), (.int (0 : Int32)), (.int (0 : Int32)), (.int (0 : Int32)), (.int (0 : Int32))] := A2
  have N2 := Fr.snoc X2 N0 l1
  refine own_dup X2 hx hby own_d1_11 (pc' := 12) rfl rfl ?_
  refine own_iconst X2 hx hby own_d1_12 (pc' := 13) rfl (z := (1 : Int32)) (by decide) ?_
  refine own_iloadN X2 hx hby own_d1_13 (pc' := 14) rfl rfl ?_
  refine own_iconst X2 hx hby own_d1_14 (pc' := 15) rfl (z := (5 : Int32)) (by decide) ?_
  refine own_iushr X2 hx hby own_d1_15 (pc' := 16) rfl rfl ?_
  refine own_bipush X2 hx hby own_d1_16 (pc' := 18) rfl (z := (31 : Int32)) (by decide) ?_
  refine own_iand X2 hx hby own_d1_18 (pc' := 19) rfl rfl ?_
  refine own_iastore X2 hx hby own_d1_19 (pc' := 20) rfl hZ e2 (B2) (by decide) (v := (.int (0 : Int32))) rfl ?_
  intro T3 h3 X3 e3 W3 A3
  have B3 : own_Ar Z h3 b1 .int [(.int (p1 &&& (31 : Int32))), (.int (((p1.toUInt32 >>> ((5 : Int32) &&& 31).toUInt32).toInt32) &&& (31 : Int32))), (.int (0 : Int32)), (.int (0 : Int32)), (.int (0 : Int32)), (.int (0 : Int32))] := A3
  have N3 := Fr.snoc X3 N2 l1
  refine own_dup X3 hx hby own_d1_20 (pc' := 21) rfl rfl ?_
  refine own_iconst X3 hx hby own_d1_21 (pc' := 22) rfl (z := (2 : Int32)) (by decide) ?_
  refine own_iloadN X3 hx hby own_d1_22 (pc' := 23) rfl rfl ?_
  refine own_bipush X3 hx hby own_d1_23 (pc' := 25) rfl (z := (10 : Int32)) (by decide) ?_
  refine own_iushr X3 hx hby own_d1_25 (pc' := 26) rfl rfl ?_
  refine own_bipush X3 hx hby own_d1_26 (pc' := 28) rfl (z := (31 : Int32)) (by decide) ?_
  refine own_iand X3 hx hby own_d1_28 (pc' := 29) rfl rfl ?_
  refine own_iastore X3 hx hby own_d1_29 (pc' := 30) rfl hZ e3 (B3) (by decide) (v := (.int (0 : Int32))) rfl ?_
  intro T4 h4 X4 e4 W4 A4
  have B4 : own_Ar Z h4 b1 .int [(.int (p1 &&& (31 : Int32))), (.int (((p1.toUInt32 >>> ((5 : Int32) &&& 31).toUInt32).toInt32) &&& (31 : Int32))), (.int (((p1.toUInt32 >>> ((10 : Int32) &&& 31).toUInt32).toInt32) &&& (31 : Int32))), (.int (0 : Int32)), (.int (0 : Int32)), (.int (0 : Int32))] := A4
  have N4 := Fr.snoc X4 N3 l1
  refine own_dup X4 hx hby own_d1_30 (pc' := 31) rfl rfl ?_
  refine own_iconst X4 hx hby own_d1_31 (pc' := 32) rfl (z := (3 : Int32)) (by decide) ?_
  refine own_iloadN X4 hx hby own_d1_32 (pc' := 33) rfl rfl ?_
  refine own_bipush X4 hx hby own_d1_33 (pc' := 35) rfl (z := (15 : Int32)) (by decide) ?_
  refine own_iushr X4 hx hby own_d1_35 (pc' := 36) rfl rfl ?_
  refine own_bipush X4 hx hby own_d1_36 (pc' := 38) rfl (z := (31 : Int32)) (by decide) ?_
  refine own_iand X4 hx hby own_d1_38 (pc' := 39) rfl rfl ?_
  refine own_iastore X4 hx hby own_d1_39 (pc' := 40) rfl hZ e4 (B4) (by decide) (v := (.int (0 : Int32))) rfl ?_
  intro T5 h5 X5 e5 W5 A5
  have B5 : own_Ar Z h5 b1 .int [(.int (p1 &&& (31 : Int32))), (.int (((p1.toUInt32 >>> ((5 : Int32) &&& 31).toUInt32).toInt32) &&& (31 : Int32))), (.int (((p1.toUInt32 >>> ((10 : Int32) &&& 31).toUInt32).toInt32) &&& (31 : Int32))), (.int (((p1.toUInt32 >>> ((15 : Int32) &&& 31).toUInt32).toInt32) &&& (31 : Int32))), (.int (0 : Int32)), (.int (0 : Int32))] := A5
  have N5 := Fr.snoc X5 N4 l1
  refine own_dup X5 hx hby own_d1_40 (pc' := 41) rfl rfl ?_
  refine own_iconst X5 hx hby own_d1_41 (pc' := 42) rfl (z := (4 : Int32)) (by decide) ?_
  refine own_iloadN X5 hx hby own_d1_42 (pc' := 43) rfl rfl ?_
  refine own_bipush X5 hx hby own_d1_43 (pc' := 45) rfl (z := (20 : Int32)) (by decide) ?_
  refine own_iushr X5 hx hby own_d1_45 (pc' := 46) rfl rfl ?_
  refine own_bipush X5 hx hby own_d1_46 (pc' := 48) rfl (z := (31 : Int32)) (by decide) ?_
  refine own_iand X5 hx hby own_d1_48 (pc' := 49) rfl rfl ?_
  refine own_iastore X5 hx hby own_d1_49 (pc' := 50) rfl hZ e5 (B5) (by decide) (v := (.int (0 : Int32))) rfl ?_
  intro T6 h6 X6 e6 W6 A6
  have B6 : own_Ar Z h6 b1 .int [(.int (p1 &&& (31 : Int32))), (.int (((p1.toUInt32 >>> ((5 : Int32) &&& 31).toUInt32).toInt32) &&& (31 : Int32))), (.int (((p1.toUInt32 >>> ((10 : Int32) &&& 31).toUInt32).toInt32) &&& (31 : Int32))), (.int (((p1.toUInt32 >>> ((15 : Int32) &&& 31).toUInt32).toInt32) &&& (31 : Int32))), (.int (((p1.toUInt32 >>> ((20 : Int32) &&& 31).toUInt32).toInt32) &&& (31 : Int32))), (.int (0 : Int32))] := A6
  have N6 := Fr.snoc X6 N5 l1
  refine own_dup X6 hx hby own_d1_50 (pc' := 51) rfl rfl ?_
  refine own_iconst X6 hx hby own_d1_51 (pc' := 52) rfl (z := (5 : Int32)) (by decide) ?_
  refine own_iloadN X6 hx hby own_d1_52 (pc' := 53) rfl rfl ?_
  refine own_bipush X6 hx hby own_d1_53 (pc' := 55) rfl (z := (25 : Int32)) (by decide) ?_
  refine own_iushr X6 hx hby own_d1_55 (pc' := 56) rfl rfl ?_
  refine own_bipush X6 hx hby own_d1_56 (pc' := 58) rfl (z := (31 : Int32)) (by decide) ?_
  refine own_iand X6 hx hby own_d1_58 (pc' := 59) rfl rfl ?_
  refine own_iastore X6 hx hby own_d1_59 (pc' := 60) rfl hZ e6 (B6) (by decide) (v := (.int (0 : Int32))) rfl ?_
  intro T7 h7 X7 e7 W7 A7
  have B7 : own_Ar Z h7 b1 .int [(.int (p1 &&& (31 : Int32))), (.int (((p1.toUInt32 >>> ((5 : Int32) &&& 31).toUInt32).toInt32) &&& (31 : Int32))), (.int (((p1.toUInt32 >>> ((10 : Int32) &&& 31).toUInt32).toInt32) &&& (31 : Int32))), (.int (((p1.toUInt32 >>> ((15 : Int32) &&& 31).toUInt32).toInt32) &&& (31 : Int32))), (.int (((p1.toUInt32 >>> ((20 : Int32) &&& 31).toUInt32).toInt32) &&& (31 : Int32))), (.int (((p1.toUInt32 >>> ((25 : Int32) &&& 31).toUInt32).toInt32) &&& (31 : Int32)))] := A7
  have N7 := Fr.snoc X7 N6 l1
  exact own_retA X7 hx hret rfl rfl (hb hby own_d1_60) hlk (by decide) (by decide) ⟨b1, _, _, _, _, _, _, rfl, N7, by rw [e7]; exact ⟨((((((((Keep.refl h0 []).ext E1).wr W2 (Or.inr (Nat.le_trans (Nat.le_refl _) (Nat.le_of_eq g1.symm)))).wr W3 (Or.inr (Nat.le_trans (Nat.le_refl _) (Nat.le_of_eq g1.symm)))).wr W4 (Or.inr (Nat.le_trans (Nat.le_refl _) (Nat.le_of_eq g1.symm)))).wr W5 (Or.inr (Nat.le_trans (Nat.le_refl _) (Nat.le_of_eq g1.symm)))).wr W6 (Or.inr (Nat.le_trans (Nat.le_refl _) (Nat.le_of_eq g1.symm)))).wr W7 (Or.inr (Nat.le_trans (Nat.le_refl _) (Nat.le_of_eq g1.symm)))), (Nat.le_of_eq g1.symm), B7⟩⟩
theorem own_pd0 : parseMethodDescriptor "(II)I" = some ⟨[.int, .int], some .int⟩ := by decide +kernel
theorem own_d2_0 : decode method_4_code 0 = .ok (.iconst 2, 1) := by decide +kernel
theorem own_d2_1 : decode method_4_code 1 = .ok (.newarray .int, 2) := by decide +kernel
theorem own_d2_3 : decode method_4_code 3 = .ok (.dup, 1) := by decide +kernel
theorem own_d2_4 : decode method_4_code 4 = .ok (.iconst 0, 1) := by decide +kernel
theorem own_d2_5 : decode method_4_code 5 = .ok (.iload_n 0, 1) := by decide +kernel
theorem own_d2_6 : decode method_4_code 6 = .ok (.iload_n 1, 1) := by decide +kernel
theorem own_d2_7 : decode method_4_code 7 = .ok (.iushr, 1) := by decide +kernel
theorem own_d2_8 : decode method_4_code 8 = .ok (.bipush 15, 2) := by decide +kernel
theorem own_d2_10 : decode method_4_code 10 = .ok (.iand, 1) := by decide +kernel
theorem own_d2_11 : decode method_4_code 11 = .ok (.aload_n 2, 1) := by decide +kernel
theorem own_d2_12 : decode method_4_code 12 = .ok (.iconst 0, 1) := by decide +kernel
theorem own_d2_13 : decode method_4_code 13 = .ok (.iaload, 1) := by decide +kernel
theorem own_d2_14 : decode method_4_code 14 = .ok (.invokestatic 32, 3) := by decide +kernel
theorem own_d2_17 : decode method_4_code 17 = .ok (.iastore, 1) := by decide +kernel
theorem own_d2_18 : decode method_4_code 18 = .ok (.dup, 1) := by decide +kernel
theorem own_d2_19 : decode method_4_code 19 = .ok (.iconst 1, 1) := by decide +kernel
theorem own_d2_20 : decode method_4_code 20 = .ok (.iload_n 0, 1) := by decide +kernel
theorem own_d2_21 : decode method_4_code 21 = .ok (.iload_n 1, 1) := by decide +kernel
theorem own_d2_22 : decode method_4_code 22 = .ok (.iconst 4, 1) := by decide +kernel
theorem own_d2_23 : decode method_4_code 23 = .ok (.iadd, 1) := by decide +kernel
theorem own_d2_24 : decode method_4_code 24 = .ok (.iushr, 1) := by decide +kernel
theorem own_d2_25 : decode method_4_code 25 = .ok (.bipush 15, 2) := by decide +kernel
theorem own_d2_27 : decode method_4_code 27 = .ok (.iand, 1) := by decide +kernel
theorem own_d2_28 : decode method_4_code 28 = .ok (.aload_n 2, 1) := by decide +kernel
theorem own_d2_29 : decode method_4_code 29 = .ok (.iconst 1, 1) := by decide +kernel
theorem own_d2_30 : decode method_4_code 30 = .ok (.iaload, 1) := by decide +kernel
theorem own_d2_31 : decode method_4_code 31 = .ok (.invokestatic 32, 3) := by decide +kernel
theorem own_d2_34 : decode method_4_code 34 = .ok (.iastore, 1) := by decide +kernel
theorem own_d2_35 : decode method_4_code 35 = .ok (.areturn, 1) := by decide +kernel
theorem own_ef_rm_mk (m : MethodId) (p1 : Int32) (p2 : Int32) (a1 : Addr) : entryFrame m #[(.int p1), (.int p2), (.ref a1)] 3 = mkF m 0 #[.val (.int p1), .val (.int p2), .val (.ref a1)] [] := by first | (simp [entryFrame, mkF, argsToLocals, Value.category]; done) | rfl
def Qrm_mk (Z : State) (p1 : Int32) (p2 : Int32) (a1 : Addr) (y0 : Int32) (y1 : Int32) (y2 : Int32) (y3 : Int32) (y4 : Int32) (y5 : Int32) (h0 : Heap) (n0 : Nat) (v : Option Value) (h : Heap) (L : List Loc) : Prop := ∃ b m0 m1, v = some (.ref b) ∧ Fr n0 L ∧ Keep h0 h [] ∧ h0.size ≤ b ∧ own_Ar Z h b .int [(.int m0), (.int m1)]
set_option maxRecDepth 65536 in
set_option maxHeartbeats 40000000 in
theorem rm_mk (l : Launch) (Z : State) (a0 : Array Value) (hw : ∀ d ∈ tables_1, d.before a0 Z = true) (ws : List Jvm.Cond) (p1 : Int32) (p2 : Int32) (a1 : Addr) (y0 : Int32) (y1 : Int32) (y2 : Int32) (y3 : Int32) (y4 : Int32) (y5 : Int32) (h0 : Heap) (n0 : Nat) (Z0 : n0 ≤ h0.size) (A_1 : own_Ar Z h0 a1 .int [(.int y0), (.int y1), (.int y2), (.int y3), (.int y4), (.int y5)]) :
    own_Met l (⟨"com/example/tag_weighted_rank/tagweightedrank/PostingsClassSizesPinLaw", "marks", "(II[I)[I"⟩ : MethodName) method_4_code 3 (some (.array .int)) ws ({ frames := 1, cells := 1, slots := 2, locals := 32 } : Room) #[(.int p1), (.int p2), (.ref a1)] Z h0 (Qrm_mk Z p1 p2 a1 y0 y1 y2 y3 y4 y5 h0 n0) := by
  refine own_body own_pn2 ?_
  intro p e s m below meth c T0 X0 hx hby hml hown hnm hret hlk hZ e0
  have N0 := Fr.nil n0
  refine own_st (fun t k => castTop (own_ef_rm_mk m p1 p2 a1) k) ?_
  show own_Go p.tables e below (T0.setTop (mkF m 0 #[.val (.int p1), .val (.int p2), .val (.ref a1)] [])) _
  refine own_iconst X0 hx hby own_d2_0 (pc' := 1) rfl (z := (2 : Int32)) (by decide) ?_
  refine own_newA X0 hx hby own_d2_1 (pc' := 3) rfl hZ (hw _ (List.mem_of_getElem? (i := 4) rfl)) e0 (by decide) (cap := 2) (by decide) (by decide) (by decide) (by decide) (vs := [(.int (0 : Int32)), (.int (0 : Int32))]) (by rfl) ?_
  intro T8 h8 b8 X8 e8 g8 E8 A8
  have l8 : n0 ≤ b8 := (Nat.le_trans Z0 (Nat.le_trans (Nat.le_refl _) (Nat.le_of_eq g8.symm)))
  refine own_dup X8 hx hby own_d2_3 (pc' := 4) rfl rfl ?_
  refine own_iconst X8 hx hby own_d2_4 (pc' := 5) rfl (z := (0 : Int32)) (by decide) ?_
  refine own_iloadN X8 hx hby own_d2_5 (pc' := 6) rfl rfl ?_
  refine own_iloadN X8 hx hby own_d2_6 (pc' := 7) rfl rfl ?_
  refine own_iushr X8 hx hby own_d2_7 (pc' := 8) rfl rfl ?_
  refine own_bipush X8 hx hby own_d2_8 (pc' := 10) rfl (z := (15 : Int32)) (by decide) ?_
  refine own_iand X8 hx hby own_d2_10 (pc' := 11) rfl rfl ?_
  refine own_aloadN X8 hx hby own_d2_11 (pc' := 12) rfl rfl rfl ?_
  refine own_iconst X8 hx hby own_d2_12 (pc' := 13) rfl (z := (0 : Int32)) (by decide) ?_
  refine own_iaload X8 hx hby own_d2_13 (pc' := 14) rfl hZ e8 ((A_1.ext E8)) (by decide) (v := (.int y0)) rfl ?_
  refine own_callS X8 hx hZ (rm_min l Z a0 hw [] (((p1.toUInt32 >>> (p2 &&& 31).toUInt32).toInt32) &&& (15 : Int32)) y0 h8 n0) hown (hw _ (List.mem_of_getElem? (i := 8) rfl)) (hw _ (List.mem_of_getElem? (i := 9) rfl)) (hw _ (List.mem_of_getElem? (i := 10) rfl)) (hw _ (List.mem_of_getElem? (i := 11) rfl)) (by decide) (W := 3) (by decide) (by decide) (by rw [hml]; rfl) (argsL := [(.int (((p1.toUInt32 >>> (p2 &&& 31).toUInt32).toInt32) &&& (15 : Int32))), (.int y0)]) (rest := [(.int (0 : Int32)), (.ref b8), (.ref b8)]) rfl (lenOf own_pd0 rfl) rfl (Nat.le_of_eq rfl) (hb hby own_d2_14) e8 (by decide) (by decide) ?_
  intro v9 T9 L9 X9 hQ9
  obtain ⟨hv9, N9q, e9⟩ := hQ9
  subst hv9
  have N9 := Fr.app N0 N9q
  show own_Go p.tables e below (T9.setTop (mkF m 17 #[.val (.int p1), .val (.int p2), .val (.ref a1)] [(.int (own_min (((p1.toUInt32 >>> (p2 &&& 31).toUInt32).toInt32) &&& (15 : Int32)) y0)), (.int (0 : Int32)), (.ref b8), (.ref b8)])) _
  refine own_iastore X9 hx hby own_d2_17 (pc' := 18) rfl hZ e9 (A8) (by decide) (v := (.int (0 : Int32))) rfl ?_
  intro T10 h10 X10 e10 W10 A10
  have B10 : own_Ar Z h10 b8 .int [(.int (own_min (((p1.toUInt32 >>> (p2 &&& 31).toUInt32).toInt32) &&& (15 : Int32)) y0)), (.int (0 : Int32))] := A10
  have N10 := Fr.snoc X10 N9 l8
  refine own_dup X10 hx hby own_d2_18 (pc' := 19) rfl rfl ?_
  refine own_iconst X10 hx hby own_d2_19 (pc' := 20) rfl (z := (1 : Int32)) (by decide) ?_
  refine own_iloadN X10 hx hby own_d2_20 (pc' := 21) rfl rfl ?_
  refine own_iloadN X10 hx hby own_d2_21 (pc' := 22) rfl rfl ?_
  refine own_iconst X10 hx hby own_d2_22 (pc' := 23) rfl (z := (4 : Int32)) (by decide) ?_
  refine own_iadd X10 hx hby own_d2_23 (pc' := 24) rfl rfl ?_
  refine own_iushr X10 hx hby own_d2_24 (pc' := 25) rfl rfl ?_
  refine own_bipush X10 hx hby own_d2_25 (pc' := 27) rfl (z := (15 : Int32)) (by decide) ?_
  refine own_iand X10 hx hby own_d2_27 (pc' := 28) rfl rfl ?_
  refine own_aloadN X10 hx hby own_d2_28 (pc' := 29) rfl rfl rfl ?_
  refine own_iconst X10 hx hby own_d2_29 (pc' := 30) rfl (z := (1 : Int32)) (by decide) ?_
  refine own_iaload X10 hx hby own_d2_30 (pc' := 31) rfl hZ e10 (((A_1.ext E8).other W10 (Nat.ne_of_lt (Nat.lt_of_lt_of_le (A_1).lt (Nat.le_of_eq g8.symm))))) (by decide) (v := (.int y1)) rfl ?_
  refine own_callS X10 hx hZ (rm_min l Z a0 hw [] (((p1.toUInt32 >>> ((p2 + (4 : Int32)) &&& 31).toUInt32).toInt32) &&& (15 : Int32)) y1 h10 n0) hown (hw _ (List.mem_of_getElem? (i := 8) rfl)) (hw _ (List.mem_of_getElem? (i := 9) rfl)) (hw _ (List.mem_of_getElem? (i := 10) rfl)) (hw _ (List.mem_of_getElem? (i := 11) rfl)) (by decide) (W := 3) (by decide) (by decide) (by rw [hml]; rfl) (argsL := [(.int (((p1.toUInt32 >>> ((p2 + (4 : Int32)) &&& 31).toUInt32).toInt32) &&& (15 : Int32))), (.int y1)]) (rest := [(.int (1 : Int32)), (.ref b8), (.ref b8)]) rfl (lenOf own_pd0 rfl) rfl (Nat.le_of_eq rfl) (hb hby own_d2_31) e10 (by decide) (by decide) ?_
  intro v11 T11 L11 X11 hQ11
  obtain ⟨hv11, N11q, e11⟩ := hQ11
  subst hv11
  have N11 := Fr.app N10 N11q
  show own_Go p.tables e below (T11.setTop (mkF m 34 #[.val (.int p1), .val (.int p2), .val (.ref a1)] [(.int (own_min (((p1.toUInt32 >>> ((p2 + (4 : Int32)) &&& 31).toUInt32).toInt32) &&& (15 : Int32)) y1)), (.int (1 : Int32)), (.ref b8), (.ref b8)])) _
  refine own_iastore X11 hx hby own_d2_34 (pc' := 35) rfl hZ e11 (B10) (by decide) (v := (.int (0 : Int32))) rfl ?_
  intro T12 h12 X12 e12 W12 A12
  have B12 : own_Ar Z h12 b8 .int [(.int (own_min (((p1.toUInt32 >>> (p2 &&& 31).toUInt32).toInt32) &&& (15 : Int32)) y0)), (.int (own_min (((p1.toUInt32 >>> ((p2 + (4 : Int32)) &&& 31).toUInt32).toInt32) &&& (15 : Int32)) y1))] := A12
  have N12 := Fr.snoc X12 N11 l8
  exact own_retA X12 hx hret rfl rfl (hb hby own_d2_35) hlk (by decide) (by decide) ⟨b8, _, _, rfl, N12, by rw [e12]; exact ⟨((((Keep.refl h0 []).ext E8).wr W10 (Or.inr (Nat.le_trans (Nat.le_refl _) (Nat.le_of_eq g8.symm)))).wr W12 (Or.inr (Nat.le_trans (Nat.le_refl _) (Nat.le_of_eq g8.symm)))), (Nat.le_of_eq g8.symm), B12⟩⟩
theorem own_d5_0 : decode prog_17_method_2_code 0 = .ok (.aload_n 0, 1) := by decide +kernel
theorem own_d5_1 : decode prog_17_method_2_code 1 = .ok (.invokespecial 11, 3) := by decide +kernel
theorem own_d5_4 : decode prog_17_method_2_code 4 = .ok (.aload_n 0, 1) := by decide +kernel
theorem own_d5_5 : decode prog_17_method_2_code 5 = .ok (.aload_n 1, 1) := by decide +kernel
theorem own_d5_6 : decode prog_17_method_2_code 6 = .ok (.putfield 16, 3) := by decide +kernel
theorem own_d5_9 : decode prog_17_method_2_code 9 = .ok (.aload_n 0, 1) := by decide +kernel
theorem own_d5_10 : decode prog_17_method_2_code 10 = .ok (.iload_n 2, 1) := by decide +kernel
theorem own_d5_11 : decode prog_17_method_2_code 11 = .ok (.putfield 20, 3) := by decide +kernel
theorem own_d5_14 : decode prog_17_method_2_code 14 = .ok (.return_, 1) := by decide +kernel
theorem own_ef_rm_i2 (m : MethodId) (a1 : Addr) (a2 : Addr) : entryFrame m #[(.ref a1), (.ref a2), (.int (0 : Int32))] 3 = mkF m 0 #[.val (.ref a1), .val (.ref a2), .val (.int (0 : Int32))] [] := by first | (simp [entryFrame, mkF, argsToLocals, Value.category]; done) | rfl
def Qrm_i2 (Z : State) (a1 : Addr) (a2 : Addr) (h0 : Heap) (n0 : Nat) (v : Option Value) (h : Heap) (L : List Loc) : Prop := v = none ∧ Fr n0 L ∧ Keep h0 h [a1] ∧ Exa Z h a1 "com/example/tag_weighted_rank/tagweightedrank/Postings" ∧ Fld Z h a1 "com/example/tag_weighted_rank/tagweightedrank/Postings" "data" "[I" (.ref a2) ∧ Fld Z h a1 "com/example/tag_weighted_rank/tagweightedrank/Postings" "length" "I" (.int (0 : Int32))
set_option maxRecDepth 65536 in
set_option maxHeartbeats 40000000 in
theorem rm_i2 (l : Launch) (Z : State) (a0 : Array Value) (hw : ∀ d ∈ tables_1, d.before a0 Z = true) (ws : List Jvm.Cond) (a1 : Addr) (a2 : Addr) (h0 : Heap) (n0 : Nat) (E_1 : Exa Z h0 a1 "com/example/tag_weighted_rank/tagweightedrank/Postings") (F_1 : Fld Z h0 a1 "com/example/tag_weighted_rank/tagweightedrank/Postings" "data" "[I" .null) (F_2 : Fld Z h0 a1 "com/example/tag_weighted_rank/tagweightedrank/Postings" "length" "I" (.int (0 : Int32))) (G_1 : n0 ≤ a1) :
    own_Met l (⟨"com/example/tag_weighted_rank/tagweightedrank/Postings", "<init>", "([II)V"⟩ : MethodName) prog_17_method_2_code 3 none ws ({ frames := 1, cells := 0, slots := 0, locals := 12 } : Room) #[(.ref a1), (.ref a2), (.int (0 : Int32))] Z h0 (Qrm_i2 Z a1 a2 h0 n0) := by
  refine own_body own_pn5 ?_
  intro p e s m below meth c T0 X0 hx hby hml hown hnm hret hlk hZ e0
  have N0 := Fr.nil n0
  refine own_st (fun t k => castTop (own_ef_rm_i2 m a1 a2) k) ?_
  show own_Go p.tables e below (T0.setTop (mkF m 0 #[.val (.ref a1), .val (.ref a2), .val (.int (0 : Int32))] [])) _
  refine own_aloadN X0 hx hby own_d5_0 (pc' := 1) rfl rfl rfl ?_
  refine own_initO X0 hx hby own_d5_1 (pc' := 4) rfl hZ hown (hw _ (List.mem_of_getElem? (i := 23) rfl)) (hw _ (List.mem_of_getElem? (i := 24) rfl)) (hw _ (List.mem_of_getElem? (i := 25) rfl)) e0 (by rw [hml]; rfl) (by decide) (W := 0) (Nat.le_of_eq rfl) (by decide) ?_
  intro T13 X13 e13
  show own_Go p.tables e below (T13.setTop (mkF m 4 #[.val (.ref a1), .val (.ref a2), .val (.int (0 : Int32))] [])) _
  refine own_aloadN X13 hx hby own_d5_4 (pc' := 5) rfl rfl rfl ?_
  refine own_aloadN X13 hx hby own_d5_5 (pc' := 6) rfl rfl rfl ?_
  refine own_put X13 hx hby own_d5_6 (pc' := 9) rfl hZ hown (host := "") (Or.inl (hw _ (List.mem_of_getElem? (i := 26) rfl))) Via.refl e13 F_1 E_1 (Or.inl (hw _ (List.mem_of_getElem? (i := 27) rfl))) (hw _ (List.mem_of_getElem? (i := 13) rfl)) (ty := (.array .int)) (by decide) rfl rfl ?_
  intro T14 h14 X14 e14 W14
  have F14 := (F_1).same W14
  have N14 := Fr.snoc X14 N0 G_1
  refine own_aloadN X14 hx hby own_d5_9 (pc' := 10) rfl rfl rfl ?_
  refine own_iloadN X14 hx hby own_d5_10 (pc' := 11) rfl rfl ?_
  refine own_put X14 hx hby own_d5_11 (pc' := 14) rfl hZ hown (host := "") (Or.inl (hw _ (List.mem_of_getElem? (i := 28) rfl))) Via.refl e14 (F_2.other W14 (Or.inr (slot_ne (Or.inl (hw _ (List.mem_of_getElem? (i := 29) rfl))) (Or.inl (hw _ (List.mem_of_getElem? (i := 27) rfl))) (by decide) (t := .int) (t' := (.array .int)) (by decide) (by decide)))) (E_1.wr W14) (Or.inl (hw _ (List.mem_of_getElem? (i := 29) rfl))) (hw _ (List.mem_of_getElem? (i := 13) rfl)) (ty := .int) (by decide) rfl rfl ?_
  intro T15 h15 X15 e15 W15
  have F15 := ((F_2.other W14 (Or.inr (slot_ne (Or.inl (hw _ (List.mem_of_getElem? (i := 29) rfl))) (Or.inl (hw _ (List.mem_of_getElem? (i := 27) rfl))) (by decide) (t := .int) (t' := (.array .int)) (by decide) (by decide))))).same W15
  have N15 := Fr.snoc X15 N14 G_1
  exact own_retV X15 hx hret (hb hby own_d5_14) hlk (by decide) (by decide) ⟨rfl, N15, by rw [e15]; exact ⟨(((Keep.refl h0 [a1]).wr W14 (Or.inl (List.mem_of_getElem? (i := 0) rfl))).wr W15 (Or.inl (List.mem_of_getElem? (i := 0) rfl))), ((E_1.wr W14).wr W15), (F14.other W15 (Or.inr (slot_ne (Or.inl (hw _ (List.mem_of_getElem? (i := 27) rfl))) (Or.inl (hw _ (List.mem_of_getElem? (i := 29) rfl))) (by decide) (t := (.array .int)) (t' := .int) (by decide) (by decide)))), F15⟩⟩
theorem own_pd1 : parseMethodDescriptor "([II)V" = some ⟨[(.array .int), .int], none⟩ := by decide +kernel
theorem own_d4_0 : decode prog_17_method_1_code 0 = .ok (.aload_n 0, 1) := by decide +kernel
theorem own_d4_1 : decode prog_17_method_1_code 1 = .ok (.getstatic 1, 3) := by decide +kernel
theorem own_d4_4 : decode prog_17_method_1_code 4 = .ok (.newarray .int, 2) := by decide +kernel
theorem own_d4_6 : decode prog_17_method_1_code 6 = .ok (.iconst 0, 1) := by decide +kernel
theorem own_d4_7 : decode prog_17_method_1_code 7 = .ok (.invokespecial 7, 3) := by decide +kernel
theorem own_d4_10 : decode prog_17_method_1_code 10 = .ok (.return_, 1) := by decide +kernel
theorem own_ef_rm_i1 (m : MethodId) (a1 : Addr) : entryFrame m #[(.ref a1)] 1 = mkF m 0 #[.val (.ref a1)] [] := by first | (simp [entryFrame, mkF, argsToLocals, Value.category]; done) | rfl
def Qrm_i1 (Z : State) (a1 : Addr) (h0 : Heap) (n0 : Nat) (v : Option Value) (h : Heap) (L : List Loc) : Prop := ∃ d, v = none ∧ Fr n0 L ∧ Keep h0 h [a1] ∧ h0.size ≤ d ∧ Exa Z h a1 "com/example/tag_weighted_rank/tagweightedrank/Postings" ∧ Fld Z h a1 "com/example/tag_weighted_rank/tagweightedrank/Postings" "data" "[I" (.ref d) ∧ Fld Z h a1 "com/example/tag_weighted_rank/tagweightedrank/Postings" "length" "I" (.int (0 : Int32)) ∧ own_Ar Z h d .int [(.int (0 : Int32)), (.int (0 : Int32)), (.int (0 : Int32)), (.int (0 : Int32)), (.int (0 : Int32)), (.int (0 : Int32)), (.int (0 : Int32)), (.int (0 : Int32)), (.int (0 : Int32))]
set_option maxRecDepth 65536 in
set_option maxHeartbeats 40000000 in
theorem rm_i1 (l : Launch) (Z : State) (a0 : Array Value) (hw : ∀ d ∈ tables_1, d.before a0 Z = true) (ws : List Jvm.Cond) (a1 : Addr) (h0 : Heap) (n0 : Nat) (O_0 : Old Z n0 h0) (S_S : Sta Z Z.heap "com/example/tag_weighted_rank/tagweightedrank/Postings" "STRIDE" "I" (.int (9 : Int32))) (E_1 : Exa Z h0 a1 "com/example/tag_weighted_rank/tagweightedrank/Postings") (F_1 : Fld Z h0 a1 "com/example/tag_weighted_rank/tagweightedrank/Postings" "data" "[I" .null) (F_2 : Fld Z h0 a1 "com/example/tag_weighted_rank/tagweightedrank/Postings" "length" "I" (.int (0 : Int32))) (G_1 : n0 ≤ a1) :
    own_Met l (⟨"com/example/tag_weighted_rank/tagweightedrank/Postings", "<init>", "()V"⟩ : MethodName) prog_17_method_1_code 1 none ws ({ frames := 2, cells := 1, slots := 9, locals := 26 } : Room) #[(.ref a1)] Z h0 (Qrm_i1 Z a1 h0 n0) := by
  refine own_body own_pn4 ?_
  intro p e s m below meth c T0 X0 hx hby hml hown hnm hret hlk hZ e0
  have N0 := Fr.nil n0
  refine own_st (fun t k => castTop (own_ef_rm_i1 m a1) k) ?_
  show own_Go p.tables e below (T0.setTop (mkF m 0 #[.val (.ref a1)] [])) _
  have Z0 := own_Z0 O_0
  refine own_aloadN X0 hx hby own_d4_0 (pc' := 1) rfl rfl rfl ?_
  refine own_getS X0 hx hby own_d4_1 (pc' := 4) rfl hZ hown (host := "") (Or.inl (hw _ (List.mem_of_getElem? (i := 18) rfl))) Via.refl e0 (S_S.ext (O_0).2) ?_
  intro T16 X16 e16
  refine own_newA X16 hx hby own_d4_4 (pc' := 6) rfl hZ (hw _ (List.mem_of_getElem? (i := 4) rfl)) e16 (by decide) (cap := 9) (by decide) (by decide) (by decide) (by decide) (vs := [(.int (0 : Int32)), (.int (0 : Int32)), (.int (0 : Int32)), (.int (0 : Int32)), (.int (0 : Int32)), (.int (0 : Int32)), (.int (0 : Int32)), (.int (0 : Int32)), (.int (0 : Int32))]) (by rfl) ?_
  intro T17 h17 b17 X17 e17 g17 E17 A17
  have l17 : n0 ≤ b17 := (Nat.le_trans Z0 (Nat.le_trans (Nat.le_refl _) (Nat.le_of_eq g17.symm)))
  refine own_iconst X17 hx hby own_d4_6 (pc' := 7) rfl (z := (0 : Int32)) (by decide) ?_
  refine own_callSp X17 hx hZ (rm_i2 l Z a0 hw [] a1 b17 h17 n0 ((E_1.ext E17)) ((F_1.ext E17)) ((F_2.ext E17)) G_1) rfl hown (hw _ (List.mem_of_getElem? (i := 20) rfl)) (hw _ (List.mem_of_getElem? (i := 21) rfl)) (hw _ (List.mem_of_getElem? (i := 22) rfl)) (hw _ (List.mem_of_getElem? (i := 14) rfl)) (by decide) (W := 0) (by decide) (by decide) (by rw [hml]; rfl) (argsL := [(.ref b17), (.int (0 : Int32))]) (rest := []) rfl (lenOf own_pd1 rfl) rfl (Nat.le_of_eq rfl) (hb hby own_d4_7) e17 (by decide) (by decide) ?_
  intro v18 T18 L18 X18 hQ18
  obtain ⟨hv18, N18q, K18, E18, F18, G18⟩ := hQ18
  subst hv18
  have N18 := Fr.app N0 N18q
  show own_Go p.tables e below (T18.setTop (mkF m 10 #[.val (.ref a1)] [])) _
  exact own_retV X18 hx hret (hb hby own_d4_10) hlk (by decide) (by decide) ⟨b17, rfl, N18, (((Keep.refl h0 [a1]).ext E17).trans K18 (allS (Or.inl (List.mem_of_getElem? (i := 0) rfl)) all0)), (Nat.le_of_eq g17.symm), E18, F18, G18, (A17.keep K18 (ninS (Ne.symm (Nat.ne_of_lt (Nat.lt_of_lt_of_le (E_1).lt (Nat.le_of_eq g17.symm)))) nin0))⟩
theorem own_d11_0 : decode jdk_65_method_123_code 0 = .ok (.iload_n 1, 1) := by decide +kernel
theorem own_d11_1 : decode jdk_65_method_123_code 1 = .ok (.aload_n 0, 1) := by decide +kernel
theorem own_d11_2 : decode jdk_65_method_123_code 2 = .ok (.arraylength, 1) := by decide +kernel
theorem own_d11_3 : decode jdk_65_method_123_code 3 = .ok (.if_icmp .ne 11, 3) := by decide +kernel
theorem own_d11_14 : decode jdk_65_method_123_code 14 = .ok (.iload_n 1, 1) := by decide +kernel
theorem own_d11_15 : decode jdk_65_method_123_code 15 = .ok (.newarray .int, 2) := by decide +kernel
theorem own_d11_17 : decode jdk_65_method_123_code 17 = .ok (.astore_n 2, 1) := by decide +kernel
theorem own_d11_18 : decode jdk_65_method_123_code 18 = .ok (.aload_n 0, 1) := by decide +kernel
theorem own_d11_19 : decode jdk_65_method_123_code 19 = .ok (.iconst 0, 1) := by decide +kernel
theorem own_d11_20 : decode jdk_65_method_123_code 20 = .ok (.aload_n 2, 1) := by decide +kernel
theorem own_d11_21 : decode jdk_65_method_123_code 21 = .ok (.iconst 0, 1) := by decide +kernel
theorem own_d11_22 : decode jdk_65_method_123_code 22 = .ok (.aload_n 0, 1) := by decide +kernel
theorem own_d11_23 : decode jdk_65_method_123_code 23 = .ok (.arraylength, 1) := by decide +kernel
theorem own_d11_24 : decode jdk_65_method_123_code 24 = .ok (.iload_n 1, 1) := by decide +kernel
theorem own_d11_25 : decode jdk_65_method_123_code 25 = .ok (.invokestatic 304, 3) := by decide +kernel
theorem own_d11_28 : decode jdk_65_method_123_code 28 = .ok (.invokestatic 150, 3) := by decide +kernel
theorem own_d11_31 : decode jdk_65_method_123_code 31 = .ok (.aload_n 2, 1) := by decide +kernel
theorem own_d11_32 : decode jdk_65_method_123_code 32 = .ok (.areturn, 1) := by decide +kernel
theorem own_ef_rm_cp9 (m : MethodId) (a1 : Addr) : entryFrame m #[(.ref a1), (.int (18 : Int32))] 3 = mkF m 0 #[.val (.ref a1), .val (.int (18 : Int32)), .unset] [] := by first | (simp [entryFrame, mkF, argsToLocals, Value.category]; done) | rfl
def Qrm_cp9 (Z : State) (a1 : Addr) (d0 : Int32) (d1 : Int32) (d2 : Int32) (d3 : Int32) (d4 : Int32) (d5 : Int32) (d6 : Int32) (d7 : Int32) (d8 : Int32) (h0 : Heap) (n0 : Nat) (v : Option Value) (h : Heap) (L : List Loc) : Prop := ∃ b, v = some (.ref b) ∧ Fr n0 L ∧ Keep h0 h [] ∧ h0.size ≤ b ∧ own_Ar Z h b .int [(.int d0), (.int d1), (.int d2), (.int d3), (.int d4), (.int d5), (.int d6), (.int d7), (.int d8), (.int (0 : Int32)), (.int (0 : Int32)), (.int (0 : Int32)), (.int (0 : Int32)), (.int (0 : Int32)), (.int (0 : Int32)), (.int (0 : Int32)), (.int (0 : Int32)), (.int (0 : Int32))]
set_option maxRecDepth 65536 in
set_option maxHeartbeats 40000000 in
theorem rm_cp9 (l : Launch) (Z : State) (a0 : Array Value) (hw : ∀ d ∈ tables_1, d.before a0 Z = true) (ws : List Jvm.Cond) (a1 : Addr) (d0 : Int32) (d1 : Int32) (d2 : Int32) (d3 : Int32) (d4 : Int32) (d5 : Int32) (d6 : Int32) (d7 : Int32) (d8 : Int32) (h0 : Heap) (n0 : Nat) (Z0 : n0 ≤ h0.size) (A_1 : own_Ar Z h0 a1 .int [(.int d0), (.int d1), (.int d2), (.int d3), (.int d4), (.int d5), (.int d6), (.int d7), (.int d8)]) :
    own_Met l (⟨"java/util/Arrays", "copyOf", "([II)[I"⟩ : MethodName) jdk_65_method_123_code 3 (some (.array .int)) ws ({ frames := 1, cells := 1, slots := 18, locals := 32 } : Room) #[(.ref a1), (.int (18 : Int32))] Z h0 (Qrm_cp9 Z a1 d0 d1 d2 d3 d4 d5 d6 d7 d8 h0 n0) := by
  refine own_body own_pn11 ?_
  intro p e s m below meth c T0 X0 hx hby hml hown hnm hret hlk hZ e0
  have N0 := Fr.nil n0
  refine own_st (fun t k => castTop (own_ef_rm_cp9 m a1) k) ?_
  show own_Go p.tables e below (T0.setTop (mkF m 0 #[.val (.ref a1), .val (.int (18 : Int32)), .unset] [])) _
  refine own_iloadN X0 hx hby own_d11_0 (pc' := 1) rfl rfl ?_
  refine own_aloadN X0 hx hby own_d11_1 (pc' := 2) rfl rfl rfl ?_
  refine own_len X0 hx hby own_d11_2 (pc' := 3) rfl hZ e0 (A_1) (n := (9 : Int32)) (by rfl) ?_
  refine own_icmpYes X0 hx hby own_d11_3 (pc' := 14) (by decide) (by decide) ?_
  refine own_iloadN X0 hx hby own_d11_14 (pc' := 15) rfl rfl ?_
  refine own_newA X0 hx hby own_d11_15 (pc' := 17) rfl hZ (hw _ (List.mem_of_getElem? (i := 4) rfl)) e0 (by decide) (cap := 18) (by decide) (by decide) (by decide) (by decide) (vs := [(.int (0 : Int32)), (.int (0 : Int32)), (.int (0 : Int32)), (.int (0 : Int32)), (.int (0 : Int32)), (.int (0 : Int32)), (.int (0 : Int32)), (.int (0 : Int32)), (.int (0 : Int32)), (.int (0 : Int32)), (.int (0 : Int32)), (.int (0 : Int32)), (.int (0 : Int32)), (.int (0 : Int32)), (.int (0 : Int32)), (.int (0 : Int32)), (.int (0 : Int32)), (.int (0 : Int32))]) (by rfl) ?_
  intro T19 h19 b19 X19 e19 g19 E19 A19
  have l19 : n0 ≤ b19 := (Nat.le_trans Z0 (Nat.le_trans (Nat.le_refl _) (Nat.le_of_eq g19.symm)))
  refine own_astoreN X19 hx hby own_d11_17 (pc' := 18) rfl rfl (Ls' := #[.val (.ref a1), .val (.int (18 : Int32)), .val (.ref b19)]) rfl ?_
  refine own_aloadN X19 hx hby own_d11_18 (pc' := 19) rfl rfl rfl ?_
  refine own_iconst X19 hx hby own_d11_19 (pc' := 20) rfl (z := (0 : Int32)) (by decide) ?_
  refine own_aloadN X19 hx hby own_d11_20 (pc' := 21) rfl rfl rfl ?_
  refine own_iconst X19 hx hby own_d11_21 (pc' := 22) rfl (z := (0 : Int32)) (by decide) ?_
  refine own_aloadN X19 hx hby own_d11_22 (pc' := 23) rfl rfl rfl ?_
  refine own_len X19 hx hby own_d11_23 (pc' := 24) rfl hZ e19 ((A_1.ext E19)) (n := (9 : Int32)) (by rfl) ?_
  refine own_iloadN X19 hx hby own_d11_24 (pc' := 25) rfl rfl ?_
  refine own_callS X19 hx hZ (rm_min l Z a0 hw [] (9 : Int32) (18 : Int32) h19 n0) hown (hw _ (List.mem_of_getElem? (i := 58) rfl)) (hw _ (List.mem_of_getElem? (i := 9) rfl)) (hw _ (List.mem_of_getElem? (i := 10) rfl)) (hw _ (List.mem_of_getElem? (i := 11) rfl)) (by decide) (W := 4) (by decide) (by decide) (by rw [hml]; rfl) (argsL := [(.int (9 : Int32)), (.int (18 : Int32))]) (rest := [(.int (0 : Int32)), (.ref b19), (.int (0 : Int32)), (.ref a1)]) rfl (lenOf own_pd0 rfl) rfl (Nat.le_of_eq rfl) (hb hby own_d11_25) e19 (by decide) (by decide) ?_
  intro v20 T20 L20 X20 hQ20
  obtain ⟨hv20, N20q, e20⟩ := hQ20
  rw [show own_min (9 : Int32) (18 : Int32) = (9 : Int32) from by decide] at hv20
  subst hv20
  have N20 := Fr.app N0 N20q
  show own_Go p.tables e below (T20.setTop (mkF m 28 #[.val (.ref a1), .val (.int (18 : Int32)), .val (.ref b19)] [(.int (9 : Int32)), (.int (0 : Int32)), (.ref b19), (.int (0 : Int32)), (.ref a1)])) _
  refine own_cp X20 hx hby own_d11_28 (pc' := 31) rfl hZ hown (hw _ (List.mem_of_getElem? (i := 59) rfl)) (hw _ (List.mem_of_getElem? (i := 51) rfl)) (hw _ (List.mem_of_getElem? (i := 49) rfl)) (hw _ (List.mem_of_getElem? (i := 50) rfl)) e20 (ty := .int) rfl ((A_1.ext E19)) (A19) (by simp [fits]) (by simp [fits]) (by decide) (by decide) (by decide) (by show _ ≤ (9 : Nat); decide) (by show _ ≤ (18 : Nat); decide) (by show (9 : Nat) < _; decide) (by show (18 : Nat) < _; decide) (us := [(.int d0), (.int d1), (.int d2), (.int d3), (.int d4), (.int d5), (.int d6), (.int d7), (.int d8), (.int (0 : Int32)), (.int (0 : Int32)), (.int (0 : Int32)), (.int (0 : Int32)), (.int (0 : Int32)), (.int (0 : Int32)), (.int (0 : Int32)), (.int (0 : Int32)), (.int (0 : Int32))]) (by rfl) N20 l19 (by rw [hml]; rfl) (by decide) (W := 0) (Nat.le_of_eq rfl) (by decide) ?_
  intro T21 h21 L21 X21 e21 N21 K21 A21
  show own_Go p.tables e below (T21.setTop (mkF m 31 #[.val (.ref a1), .val (.int (18 : Int32)), .val (.ref b19)] [])) _
  refine own_aloadN X21 hx hby own_d11_31 (pc' := 32) rfl rfl rfl ?_
  exact own_retA X21 hx hret rfl rfl (hb hby own_d11_32) hlk (by decide) (by decide) ⟨b19, rfl, N21, by rw [e21]; exact ⟨(((Keep.refl h0 []).ext E19).trans K21 (allS (Or.inr (Nat.le_trans (Nat.le_refl _) (Nat.le_of_eq g19.symm))) all0)), (Nat.le_of_eq g19.symm), A21⟩⟩
theorem own_ef_rm_cp18 (m : MethodId) (a1 : Addr) : entryFrame m #[(.ref a1), (.int (36 : Int32))] 3 = mkF m 0 #[.val (.ref a1), .val (.int (36 : Int32)), .unset] [] := by first | (simp [entryFrame, mkF, argsToLocals, Value.category]; done) | rfl
def Qrm_cp18 (Z : State) (a1 : Addr) (d0 : Int32) (d1 : Int32) (d2 : Int32) (d3 : Int32) (d4 : Int32) (d5 : Int32) (d6 : Int32) (d7 : Int32) (d8 : Int32) (d9 : Int32) (d10 : Int32) (d11 : Int32) (d12 : Int32) (d13 : Int32) (d14 : Int32) (d15 : Int32) (d16 : Int32) (d17 : Int32) (h0 : Heap) (n0 : Nat) (v : Option Value) (h : Heap) (L : List Loc) : Prop := ∃ b, v = some (.ref b) ∧ Fr n0 L ∧ Keep h0 h [] ∧ h0.size ≤ b ∧ own_Ar Z h b .int [(.int d0), (.int d1), (.int d2), (.int d3), (.int d4), (.int d5), (.int d6), (.int d7), (.int d8), (.int d9), (.int d10), (.int d11), (.int d12), (.int d13), (.int d14), (.int d15), (.int d16), (.int d17), (.int (0 : Int32)), (.int (0 : Int32)), (.int (0 : Int32)), (.int (0 : Int32)), (.int (0 : Int32)), (.int (0 : Int32)), (.int (0 : Int32)), (.int (0 : Int32)), (.int (0 : Int32)), (.int (0 : Int32)), (.int (0 : Int32)), (.int (0 : Int32)), (.int (0 : Int32)), (.int (0 : Int32)), (.int (0 : Int32)), (.int (0 : Int32)), (.int (0 : Int32)), (.int (0 : Int32))]
set_option maxRecDepth 65536 in
set_option maxHeartbeats 40000000 in
theorem rm_cp18 (l : Launch) (Z : State) (a0 : Array Value) (hw : ∀ d ∈ tables_1, d.before a0 Z = true) (ws : List Jvm.Cond) (a1 : Addr) (d0 : Int32) (d1 : Int32) (d2 : Int32) (d3 : Int32) (d4 : Int32) (d5 : Int32) (d6 : Int32) (d7 : Int32) (d8 : Int32) (d9 : Int32) (d10 : Int32) (d11 : Int32) (d12 : Int32) (d13 : Int32) (d14 : Int32) (d15 : Int32) (d16 : Int32) (d17 : Int32) (h0 : Heap) (n0 : Nat) (Z0 : n0 ≤ h0.size) (A_1 : own_Ar Z h0 a1 .int [(.int d0), (.int d1), (.int d2), (.int d3), (.int d4), (.int d5), (.int d6), (.int d7), (.int d8), (.int d9), (.int d10), (.int d11), (.int d12), (.int d13), (.int d14), (.int d15), (.int d16), (.int d17)]) :
    own_Met l (⟨"java/util/Arrays", "copyOf", "([II)[I"⟩ : MethodName) jdk_65_method_123_code 3 (some (.array .int)) ws ({ frames := 1, cells := 1, slots := 36, locals := 32 } : Room) #[(.ref a1), (.int (36 : Int32))] Z h0 (Qrm_cp18 Z a1 d0 d1 d2 d3 d4 d5 d6 d7 d8 d9 d10 d11 d12 d13 d14 d15 d16 d17 h0 n0) := by
  refine own_body own_pn11 ?_
  intro p e s m below meth c T0 X0 hx hby hml hown hnm hret hlk hZ e0
  have N0 := Fr.nil n0
  refine own_st (fun t k => castTop (own_ef_rm_cp18 m a1) k) ?_
  show own_Go p.tables e below (T0.setTop (mkF m 0 #[.val (.ref a1), .val (.int (36 : Int32)), .unset] [])) _
  refine own_iloadN X0 hx hby own_d11_0 (pc' := 1) rfl rfl ?_
  refine own_aloadN X0 hx hby own_d11_1 (pc' := 2) rfl rfl rfl ?_
  refine own_len X0 hx hby own_d11_2 (pc' := 3) rfl hZ e0 (A_1) (n := (18 : Int32)) (by rfl) ?_
  refine own_icmpYes X0 hx hby own_d11_3 (pc' := 14) (by decide) (by decide) ?_
  refine own_iloadN X0 hx hby own_d11_14 (pc' := 15) rfl rfl ?_
  refine own_newA X0 hx hby own_d11_15 (pc' := 17) rfl hZ (hw _ (List.mem_of_getElem? (i := 4) rfl)) e0 (by decide) (cap := 36) (by decide) (by decide) (by decide) (by decide) (vs := [(.int (0 : Int32)), (.int (0 : Int32)), (.int (0 : Int32)), (.int (0 : Int32)), (.int (0 : Int32)), (.int (0 : Int32)), (.int (0 : Int32)), (.int (0 : Int32)), (.int (0 : Int32)), (.int (0 : Int32)), (.int (0 : Int32)), (.int (0 : Int32)), (.int (0 : Int32)), (.int (0 : Int32)), (.int (0 : Int32)), (.int (0 : Int32)), (.int (0 : Int32)), (.int (0 : Int32)), (.int (0 : Int32)), (.int (0 : Int32)), (.int (0 : Int32)), (.int (0 : Int32)), (.int (0 : Int32)), (.int (0 : Int32)), (.int (0 : Int32)), (.int (0 : Int32)), (.int (0 : Int32)), (.int (0 : Int32)), (.int (0 : Int32)), (.int (0 : Int32)), (.int (0 : Int32)), (.int (0 : Int32)), (.int (0 : Int32)), (.int (0 : Int32)), (.int (0 : Int32)), (.int (0 : Int32))]) (by rfl) ?_
  intro T22 h22 b22 X22 e22 g22 E22 A22
  have l22 : n0 ≤ b22 := (Nat.le_trans Z0 (Nat.le_trans (Nat.le_refl _) (Nat.le_of_eq g22.symm)))
  refine own_astoreN X22 hx hby own_d11_17 (pc' := 18) rfl rfl (Ls' := #[.val (.ref a1), .val (.int (36 : Int32)), .val (.ref b22)]) rfl ?_
  refine own_aloadN X22 hx hby own_d11_18 (pc' := 19) rfl rfl rfl ?_
  refine own_iconst X22 hx hby own_d11_19 (pc' := 20) rfl (z := (0 : Int32)) (by decide) ?_
  refine own_aloadN X22 hx hby own_d11_20 (pc' := 21) rfl rfl rfl ?_
  refine own_iconst X22 hx hby own_d11_21 (pc' := 22) rfl (z := (0 : Int32)) (by decide) ?_
  refine own_aloadN X22 hx hby own_d11_22 (pc' := 23) rfl rfl rfl ?_
  refine own_len X22 hx hby own_d11_23 (pc' := 24) rfl hZ e22 ((A_1.ext E22)) (n := (18 : Int32)) (by rfl) ?_
  refine own_iloadN X22 hx hby own_d11_24 (pc' := 25) rfl rfl ?_
  refine own_callS X22 hx hZ (rm_min l Z a0 hw [] (18 : Int32) (36 : Int32) h22 n0) hown (hw _ (List.mem_of_getElem? (i := 58) rfl)) (hw _ (List.mem_of_getElem? (i := 9) rfl)) (hw _ (List.mem_of_getElem? (i := 10) rfl)) (hw _ (List.mem_of_getElem? (i := 11) rfl)) (by decide) (W := 4) (by decide) (by decide) (by rw [hml]; rfl) (argsL := [(.int (18 : Int32)), (.int (36 : Int32))]) (rest := [(.int (0 : Int32)), (.ref b22), (.int (0 : Int32)), (.ref a1)]) rfl (lenOf own_pd0 rfl) rfl (Nat.le_of_eq rfl) (hb hby own_d11_25) e22 (by decide) (by decide) ?_
  intro v23 T23 L23 X23 hQ23
  obtain ⟨hv23, N23q, e23⟩ := hQ23
  rw [show own_min (18 : Int32) (36 : Int32) = (18 : Int32) from by decide] at hv23
  subst hv23
  have N23 := Fr.app N0 N23q
  show own_Go p.tables e below (T23.setTop (mkF m 28 #[.val (.ref a1), .val (.int (36 : Int32)), .val (.ref b22)] [(.int (18 : Int32)), (.int (0 : Int32)), (.ref b22), (.int (0 : Int32)), (.ref a1)])) _
  refine own_cp X23 hx hby own_d11_28 (pc' := 31) rfl hZ hown (hw _ (List.mem_of_getElem? (i := 59) rfl)) (hw _ (List.mem_of_getElem? (i := 51) rfl)) (hw _ (List.mem_of_getElem? (i := 49) rfl)) (hw _ (List.mem_of_getElem? (i := 50) rfl)) e23 (ty := .int) rfl ((A_1.ext E22)) (A22) (by simp [fits]) (by simp [fits]) (by decide) (by decide) (by decide) (by show _ ≤ (18 : Nat); decide) (by show _ ≤ (36 : Nat); decide) (by show (18 : Nat) < _; decide) (by show (36 : Nat) < _; decide) (us := [(.int d0), (.int d1), (.int d2), (.int d3), (.int d4), (.int d5), (.int d6), (.int d7), (.int d8), (.int d9), (.int d10), (.int d11), (.int d12), (.int d13), (.int d14), (.int d15), (.int d16), (.int d17), (.int (0 : Int32)), (.int (0 : Int32)), (.int (0 : Int32)), (.int (0 : Int32)), (.int (0 : Int32)), (.int (0 : Int32)), (.int (0 : Int32)), (.int (0 : Int32)), (.int (0 : Int32)), (.int (0 : Int32)), (.int (0 : Int32)), (.int (0 : Int32)), (.int (0 : Int32)), (.int (0 : Int32)), (.int (0 : Int32)), (.int (0 : Int32)), (.int (0 : Int32)), (.int (0 : Int32))]) (by rfl) N23 l22 (by rw [hml]; rfl) (by decide) (W := 0) (Nat.le_of_eq rfl) (by decide) ?_
  intro T24 h24 L24 X24 e24 N24 K24 A24
  show own_Go p.tables e below (T24.setTop (mkF m 31 #[.val (.ref a1), .val (.int (36 : Int32)), .val (.ref b22)] [])) _
  refine own_aloadN X24 hx hby own_d11_31 (pc' := 32) rfl rfl rfl ?_
  exact own_retA X24 hx hret rfl rfl (hb hby own_d11_32) hlk (by decide) (by decide) ⟨b22, rfl, N24, by rw [e24]; exact ⟨(((Keep.refl h0 []).ext E22).trans K24 (allS (Or.inr (Nat.le_trans (Nat.le_refl _) (Nat.le_of_eq g22.symm))) all0)), (Nat.le_of_eq g22.symm), A24⟩⟩
theorem own_d10_0 : decode prog_17_method_4_code 0 = .ok (.aload_n 0, 1) := by decide +kernel
theorem own_d10_1 : decode prog_17_method_4_code 1 = .ok (.getfield 20, 3) := by decide +kernel
theorem own_d10_4 : decode prog_17_method_4_code 4 = .ok (.getstatic 1, 3) := by decide +kernel
theorem own_d10_7 : decode prog_17_method_4_code 7 = .ok (.iadd, 1) := by decide +kernel
theorem own_d10_8 : decode prog_17_method_4_code 8 = .ok (.aload_n 0, 1) := by decide +kernel
theorem own_d10_9 : decode prog_17_method_4_code 9 = .ok (.getfield 16, 3) := by decide +kernel
theorem own_d10_12 : decode prog_17_method_4_code 12 = .ok (.arraylength, 1) := by decide +kernel
theorem own_d10_13 : decode prog_17_method_4_code 13 = .ok (.if_icmp .le 21, 3) := by decide +kernel
theorem own_d10_34 : decode prog_17_method_4_code 34 = .ok (.aload_n 0, 1) := by decide +kernel
theorem own_d10_35 : decode prog_17_method_4_code 35 = .ok (.getfield 16, 3) := by decide +kernel
theorem own_d10_38 : decode prog_17_method_4_code 38 = .ok (.aload_n 0, 1) := by decide +kernel
theorem own_d10_39 : decode prog_17_method_4_code 39 = .ok (.getfield 20, 3) := by decide +kernel
theorem own_d10_42 : decode prog_17_method_4_code 42 = .ok (.iload_n 1, 1) := by decide +kernel
theorem own_d10_43 : decode prog_17_method_4_code 43 = .ok (.iastore, 1) := by decide +kernel
theorem own_d10_44 : decode prog_17_method_4_code 44 = .ok (.aload_n 2, 1) := by decide +kernel
theorem own_d10_45 : decode prog_17_method_4_code 45 = .ok (.iconst 0, 1) := by decide +kernel
theorem own_d10_46 : decode prog_17_method_4_code 46 = .ok (.aload_n 0, 1) := by decide +kernel
theorem own_d10_47 : decode prog_17_method_4_code 47 = .ok (.getfield 16, 3) := by decide +kernel
theorem own_d10_50 : decode prog_17_method_4_code 50 = .ok (.aload_n 0, 1) := by decide +kernel
theorem own_d10_51 : decode prog_17_method_4_code 51 = .ok (.getfield 20, 3) := by decide +kernel
theorem own_d10_54 : decode prog_17_method_4_code 54 = .ok (.iconst 1, 1) := by decide +kernel
theorem own_d10_55 : decode prog_17_method_4_code 55 = .ok (.iadd, 1) := by decide +kernel
theorem own_d10_56 : decode prog_17_method_4_code 56 = .ok (.getstatic 38, 3) := by decide +kernel
theorem own_d10_59 : decode prog_17_method_4_code 59 = .ok (.arraylength, 1) := by decide +kernel
theorem own_d10_60 : decode prog_17_method_4_code 60 = .ok (.invokestatic 42, 3) := by decide +kernel
theorem own_d10_63 : decode prog_17_method_4_code 63 = .ok (.aload_n 3, 1) := by decide +kernel
theorem own_d10_64 : decode prog_17_method_4_code 64 = .ok (.iconst 0, 1) := by decide +kernel
theorem own_d10_65 : decode prog_17_method_4_code 65 = .ok (.aload_n 0, 1) := by decide +kernel
theorem own_d10_66 : decode prog_17_method_4_code 66 = .ok (.getfield 16, 3) := by decide +kernel
theorem own_d10_69 : decode prog_17_method_4_code 69 = .ok (.aload_n 0, 1) := by decide +kernel
theorem own_d10_70 : decode prog_17_method_4_code 70 = .ok (.getfield 20, 3) := by decide +kernel
theorem own_d10_73 : decode prog_17_method_4_code 73 = .ok (.iconst 1, 1) := by decide +kernel
theorem own_d10_74 : decode prog_17_method_4_code 74 = .ok (.iadd, 1) := by decide +kernel
theorem own_d10_75 : decode prog_17_method_4_code 75 = .ok (.getstatic 38, 3) := by decide +kernel
theorem own_d10_78 : decode prog_17_method_4_code 78 = .ok (.arraylength, 1) := by decide +kernel
theorem own_d10_79 : decode prog_17_method_4_code 79 = .ok (.iadd, 1) := by decide +kernel
theorem own_d10_80 : decode prog_17_method_4_code 80 = .ok (.getstatic 48, 3) := by decide +kernel
theorem own_d10_83 : decode prog_17_method_4_code 83 = .ok (.invokestatic 42, 3) := by decide +kernel
theorem own_d10_86 : decode prog_17_method_4_code 86 = .ok (.aload_n 0, 1) := by decide +kernel
theorem own_d10_87 : decode prog_17_method_4_code 87 = .ok (.dup, 1) := by decide +kernel
theorem own_d10_88 : decode prog_17_method_4_code 88 = .ok (.getfield 20, 3) := by decide +kernel
theorem own_d10_91 : decode prog_17_method_4_code 91 = .ok (.getstatic 1, 3) := by decide +kernel
theorem own_d10_94 : decode prog_17_method_4_code 94 = .ok (.iadd, 1) := by decide +kernel
theorem own_d10_95 : decode prog_17_method_4_code 95 = .ok (.putfield 20, 3) := by decide +kernel
theorem own_d10_98 : decode prog_17_method_4_code 98 = .ok (.return_, 1) := by decide +kernel
theorem own_ef_rm_add1 (m : MethodId) (a1 : Addr) (p1 : Int32) (a2 : Addr) (a3 : Addr) : entryFrame m #[(.ref a1), (.int p1), (.ref a2), (.ref a3)] 4 = mkF m 0 #[.val (.ref a1), .val (.int p1), .val (.ref a2), .val (.ref a3)] [] := by first | (simp [entryFrame, mkF, argsToLocals, Value.category]; done) | rfl
def Qrm_add1 (Z : State) (a1 : Addr) (p1 : Int32) (a2 : Addr) (a3 : Addr) (aD : Addr) (aC : Addr) (vC : List Value) (y0 : Int32) (y1 : Int32) (y2 : Int32) (y3 : Int32) (y4 : Int32) (y5 : Int32) (m0 : Int32) (m1 : Int32) (h0 : Heap) (n0 : Nat) (v : Option Value) (h : Heap) (L : List Loc) : Prop := v = none ∧ Fr n0 L ∧ Keep h0 h [a1, aD] ∧ Exa Z h a1 "com/example/tag_weighted_rank/tagweightedrank/Postings" ∧ Fld Z h a1 "com/example/tag_weighted_rank/tagweightedrank/Postings" "data" "[I" (.ref aD) ∧ Fld Z h a1 "com/example/tag_weighted_rank/tagweightedrank/Postings" "length" "I" (.int (9 : Int32)) ∧ own_Ar Z h aD .int [(.int p1), (.int y0), (.int y1), (.int y2), (.int y3), (.int y4), (.int y5), (.int m0), (.int m1)]
set_option maxRecDepth 65536 in
set_option maxHeartbeats 40000000 in
theorem rm_add1 (l : Launch) (Z : State) (a0 : Array Value) (hw : ∀ d ∈ tables_1, d.before a0 Z = true) (ws : List Jvm.Cond) (a1 : Addr) (p1 : Int32) (a2 : Addr) (a3 : Addr) (aD : Addr) (aC : Addr) (vC : List Value) (y0 : Int32) (y1 : Int32) (y2 : Int32) (y3 : Int32) (y4 : Int32) (y5 : Int32) (m0 : Int32) (m1 : Int32) (h0 : Heap) (n0 : Nat) (O_0 : Old Z n0 h0) (S_S : Sta Z Z.heap "com/example/tag_weighted_rank/tagweightedrank/Postings" "STRIDE" "I" (.int (9 : Int32))) (S_M : Sta Z Z.heap "com/example/tag_weighted_rank/tagweightedrank/Postings" "MARKINGS" "I" (.int (2 : Int32))) (S_C : Sta Z Z.heap "com/example/tag_weighted_rank/tagweightedrank/Postings" "CLASSES" "[Lcom/example/tag_weighted_rank/tagweightedrank/TagClass;" (.ref aC)) (A_C : own_Ar Z Z.heap aC (.object "com/example/tag_weighted_rank/tagweightedrank/TagClass") vC) (hC : vC.length.toInt32 = 6) (E_1 : Exa Z h0 a1 "com/example/tag_weighted_rank/tagweightedrank/Postings") (F_1 : Fld Z h0 a1 "com/example/tag_weighted_rank/tagweightedrank/Postings" "data" "[I" (.ref aD)) (F_2 : Fld Z h0 a1 "com/example/tag_weighted_rank/tagweightedrank/Postings" "length" "I" (.int (0 : Int32))) (G_1 : n0 ≤ a1) (G_D : n0 ≤ aD) (A_D : own_Ar Z h0 aD .int [(.int (0 : Int32)), (.int (0 : Int32)), (.int (0 : Int32)), (.int (0 : Int32)), (.int (0 : Int32)), (.int (0 : Int32)), (.int (0 : Int32)), (.int (0 : Int32)), (.int (0 : Int32))]) (A_2 : own_Ar Z h0 a2 .int [(.int y0), (.int y1), (.int y2), (.int y3), (.int y4), (.int y5)]) (A_3 : own_Ar Z h0 a3 .int [(.int m0), (.int m1)]) (n2 : a2 ≠ aD) (n3 : a3 ≠ aD) (n4 : a1 ≠ a2) (n5 : a1 ≠ a3) :
    own_Met l (⟨"com/example/tag_weighted_rank/tagweightedrank/Postings", "add", "(I[I[I)V"⟩ : MethodName) prog_17_method_4_code 4 none ws ({ frames := 2, cells := 0, slots := 0, locals := 64 } : Room) #[(.ref a1), (.int p1), (.ref a2), (.ref a3)] Z h0 (Qrm_add1 Z a1 p1 a2 a3 aD aC vC y0 y1 y2 y3 y4 y5 m0 m1 h0 n0) := by
  refine own_body own_pn10 ?_
  intro p e s m below meth c T0 X0 hx hby hml hown hnm hret hlk hZ e0
  have N0 := Fr.nil n0
  refine own_st (fun t k => castTop (own_ef_rm_add1 m a1 p1 a2 a3) k) ?_
  show own_Go p.tables e below (T0.setTop (mkF m 0 #[.val (.ref a1), .val (.int p1), .val (.ref a2), .val (.ref a3)] [])) _
  have Z0 := own_Z0 O_0
  have n1 : a1 ≠ aD := by obtain ⟨cD, AD, -⟩ := A_D; exact ne_arr E_1 (hw _ (List.mem_of_getElem? (i := 13) rfl)) AD
  refine own_aloadN X0 hx hby own_d10_0 (pc' := 1) rfl rfl rfl ?_
  refine own_getF X0 hx hby own_d10_1 (pc' := 4) rfl hZ hown (host := "") (Or.inl (hw _ (List.mem_of_getElem? (i := 28) rfl))) Via.refl e0 F_2 ?_
  intro T25 X25 e25
  refine own_getS X25 hx hby own_d10_4 (pc' := 7) rfl hZ hown (host := "") (Or.inl (hw _ (List.mem_of_getElem? (i := 18) rfl))) Via.refl e25 (S_S.ext (O_0).2) ?_
  intro T26 X26 e26
  refine own_iadd X26 hx hby own_d10_7 (pc' := 8) rfl (z := (9 : Int32)) (by decide) ?_
  refine own_aloadN X26 hx hby own_d10_8 (pc' := 9) rfl rfl rfl ?_
  refine own_getF X26 hx hby own_d10_9 (pc' := 12) rfl hZ hown (host := "") (Or.inl (hw _ (List.mem_of_getElem? (i := 26) rfl))) Via.refl e26 F_1 ?_
  intro T27 X27 e27
  refine own_len X27 hx hby own_d10_12 (pc' := 13) rfl hZ e27 (A_D) (n := (9 : Int32)) (by rfl) ?_
  refine own_icmpYes X27 hx hby own_d10_13 (pc' := 34) (by decide) (by decide) ?_
  refine own_aloadN X27 hx hby own_d10_34 (pc' := 35) rfl rfl rfl ?_
  refine own_getF X27 hx hby own_d10_35 (pc' := 38) rfl hZ hown (host := "") (Or.inl (hw _ (List.mem_of_getElem? (i := 26) rfl))) Via.refl e27 F_1 ?_
  intro T28 X28 e28
  refine own_aloadN X28 hx hby own_d10_38 (pc' := 39) rfl rfl rfl ?_
  refine own_getF X28 hx hby own_d10_39 (pc' := 42) rfl hZ hown (host := "") (Or.inl (hw _ (List.mem_of_getElem? (i := 28) rfl))) Via.refl e28 F_2 ?_
  intro T29 X29 e29
  refine own_iloadN X29 hx hby own_d10_42 (pc' := 43) rfl rfl ?_
  refine own_iastore X29 hx hby own_d10_43 (pc' := 44) rfl hZ e29 (A_D) (by decide) (v := (.int (0 : Int32))) rfl ?_
  intro T30 h30 X30 e30 W30 A30
  have B30 : own_Ar Z h30 aD .int [(.int p1), (.int (0 : Int32)), (.int (0 : Int32)), (.int (0 : Int32)), (.int (0 : Int32)), (.int (0 : Int32)), (.int (0 : Int32)), (.int (0 : Int32)), (.int (0 : Int32))] := A30
  have N30 := Fr.snoc X30 N0 G_D
  refine own_aloadN X30 hx hby own_d10_44 (pc' := 45) rfl rfl rfl ?_
  refine own_iconst X30 hx hby own_d10_45 (pc' := 46) rfl (z := (0 : Int32)) (by decide) ?_
  refine own_aloadN X30 hx hby own_d10_46 (pc' := 47) rfl rfl rfl ?_
  refine own_getF X30 hx hby own_d10_47 (pc' := 50) rfl hZ hown (host := "") (Or.inl (hw _ (List.mem_of_getElem? (i := 26) rfl))) Via.refl e30 (F_1.other W30 (Or.inl n1)) ?_
  intro T31 X31 e31
  refine own_aloadN X31 hx hby own_d10_50 (pc' := 51) rfl rfl rfl ?_
  refine own_getF X31 hx hby own_d10_51 (pc' := 54) rfl hZ hown (host := "") (Or.inl (hw _ (List.mem_of_getElem? (i := 28) rfl))) Via.refl e31 (F_2.other W30 (Or.inl n1)) ?_
  intro T32 X32 e32
  refine own_iconst X32 hx hby own_d10_54 (pc' := 55) rfl (z := (1 : Int32)) (by decide) ?_
  refine own_iadd X32 hx hby own_d10_55 (pc' := 56) rfl (z := (1 : Int32)) (by decide) ?_
  refine own_getS X32 hx hby own_d10_56 (pc' := 59) rfl hZ hown (host := "") (Or.inl (hw _ (List.mem_of_getElem? (i := 35) rfl))) Via.refl e32 (S_C.ext ((O_0.wr W30 G_D)).2) ?_
  intro T33 X33 e33
  refine own_len X33 hx hby own_d10_59 (pc' := 60) rfl hZ e33 (A_C.ext ((O_0.wr W30 G_D)).2) hC ?_
  refine own_cp X33 hx hby own_d10_60 (pc' := 63) rfl hZ hown (hw _ (List.mem_of_getElem? (i := 48) rfl)) (hw _ (List.mem_of_getElem? (i := 51) rfl)) (hw _ (List.mem_of_getElem? (i := 49) rfl)) (hw _ (List.mem_of_getElem? (i := 50) rfl)) e33 (ty := .int) rfl ((A_2.other W30 n2)) (B30) (by simp [fits]) (by simp [fits]) (by decide) (by decide) (by decide) (by show _ ≤ (6 : Nat); decide) (by show _ ≤ (9 : Nat); decide) (by show (6 : Nat) < _; decide) (by show (9 : Nat) < _; decide) (us := [(.int p1), (.int y0), (.int y1), (.int y2), (.int y3), (.int y4), (.int y5), (.int (0 : Int32)), (.int (0 : Int32))]) (by rfl) N30 G_D (by rw [hml]; rfl) (by decide) (W := 0) (Nat.le_of_eq rfl) (by decide) ?_
  intro T34 h34 L34 X34 e34 N34 K34 A34
  show own_Go p.tables e below (T34.setTop (mkF m 63 #[.val (.ref a1), .val (.int p1), .val (.ref a2), .val (.ref a3)] [])) _
  refine own_aloadN X34 hx hby own_d10_63 (pc' := 64) rfl rfl rfl ?_
  refine own_iconst X34 hx hby own_d10_64 (pc' := 65) rfl (z := (0 : Int32)) (by decide) ?_
  refine own_aloadN X34 hx hby own_d10_65 (pc' := 66) rfl rfl rfl ?_
  refine own_getF X34 hx hby own_d10_66 (pc' := 69) rfl hZ hown (host := "") (Or.inl (hw _ (List.mem_of_getElem? (i := 26) rfl))) Via.refl e34 ((F_1.other W30 (Or.inl n1)).keep K34 (ninS n1 nin0)) ?_
  intro T35 X35 e35
  refine own_aloadN X35 hx hby own_d10_69 (pc' := 70) rfl rfl rfl ?_
  refine own_getF X35 hx hby own_d10_70 (pc' := 73) rfl hZ hown (host := "") (Or.inl (hw _ (List.mem_of_getElem? (i := 28) rfl))) Via.refl e35 ((F_2.other W30 (Or.inl n1)).keep K34 (ninS n1 nin0)) ?_
  intro T36 X36 e36
  refine own_iconst X36 hx hby own_d10_73 (pc' := 74) rfl (z := (1 : Int32)) (by decide) ?_
  refine own_iadd X36 hx hby own_d10_74 (pc' := 75) rfl (z := (1 : Int32)) (by decide) ?_
  refine own_getS X36 hx hby own_d10_75 (pc' := 78) rfl hZ hown (host := "") (Or.inl (hw _ (List.mem_of_getElem? (i := 35) rfl))) Via.refl e36 (S_C.ext (((O_0.wr W30 G_D).keep K34 (allS G_D all0))).2) ?_
  intro T37 X37 e37
  refine own_len X37 hx hby own_d10_78 (pc' := 79) rfl hZ e37 (A_C.ext (((O_0.wr W30 G_D).keep K34 (allS G_D all0))).2) hC ?_
  refine own_iadd X37 hx hby own_d10_79 (pc' := 80) rfl (z := (7 : Int32)) (by decide) ?_
  refine own_getS X37 hx hby own_d10_80 (pc' := 83) rfl hZ hown (host := "") (Or.inl (hw _ (List.mem_of_getElem? (i := 52) rfl))) Via.refl e37 (S_M.ext (((O_0.wr W30 G_D).keep K34 (allS G_D all0))).2) ?_
  intro T38 X38 e38
  refine own_cp X38 hx hby own_d10_83 (pc' := 86) rfl hZ hown (hw _ (List.mem_of_getElem? (i := 48) rfl)) (hw _ (List.mem_of_getElem? (i := 51) rfl)) (hw _ (List.mem_of_getElem? (i := 49) rfl)) (hw _ (List.mem_of_getElem? (i := 50) rfl)) e38 (ty := .int) rfl (((A_3.other W30 n3).keep K34 (ninS n3 nin0))) (A34) (by simp [fits]) (by simp [fits]) (by decide) (by decide) (by decide) (by show _ ≤ (2 : Nat); decide) (by show _ ≤ (9 : Nat); decide) (by show (2 : Nat) < _; decide) (by show (9 : Nat) < _; decide) (us := [(.int p1), (.int y0), (.int y1), (.int y2), (.int y3), (.int y4), (.int y5), (.int m0), (.int m1)]) (by rfl) N34 G_D (by rw [hml]; rfl) (by decide) (W := 0) (Nat.le_of_eq rfl) (by decide) ?_
  intro T39 h39 L39 X39 e39 N39 K39 A39
  show own_Go p.tables e below (T39.setTop (mkF m 86 #[.val (.ref a1), .val (.int p1), .val (.ref a2), .val (.ref a3)] [])) _
  refine own_aloadN X39 hx hby own_d10_86 (pc' := 87) rfl rfl rfl ?_
  refine own_dup X39 hx hby own_d10_87 (pc' := 88) rfl rfl ?_
  refine own_getF X39 hx hby own_d10_88 (pc' := 91) rfl hZ hown (host := "") (Or.inl (hw _ (List.mem_of_getElem? (i := 28) rfl))) Via.refl e39 (((F_2.other W30 (Or.inl n1)).keep K34 (ninS n1 nin0)).keep K39 (ninS n1 nin0)) ?_
  intro T40 X40 e40
  refine own_getS X40 hx hby own_d10_91 (pc' := 94) rfl hZ hown (host := "") (Or.inl (hw _ (List.mem_of_getElem? (i := 18) rfl))) Via.refl e40 (S_S.ext ((((O_0.wr W30 G_D).keep K34 (allS G_D all0)).keep K39 (allS G_D all0))).2) ?_
  intro T41 X41 e41
  refine own_iadd X41 hx hby own_d10_94 (pc' := 95) rfl (z := (9 : Int32)) (by decide) ?_
  refine own_put X41 hx hby own_d10_95 (pc' := 98) rfl hZ hown (host := "") (Or.inl (hw _ (List.mem_of_getElem? (i := 28) rfl))) Via.refl e41 (((F_2.other W30 (Or.inl n1)).keep K34 (ninS n1 nin0)).keep K39 (ninS n1 nin0)) (((E_1.wr W30).keep K34).keep K39) (Or.inl (hw _ (List.mem_of_getElem? (i := 29) rfl))) (hw _ (List.mem_of_getElem? (i := 13) rfl)) (ty := .int) (by decide) rfl rfl ?_
  intro T42 h42 X42 e42 W42
  have F42 := ((((F_2.other W30 (Or.inl n1)).keep K34 (ninS n1 nin0)).keep K39 (ninS n1 nin0))).same W42
  have N42 := Fr.snoc X42 N39 G_1
  exact own_retV X42 hx hret (hb hby own_d10_98) hlk (by decide) (by decide) ⟨rfl, N42, by rw [e42]; exact ⟨(((((Keep.refl h0 [a1, aD]).wr W30 (Or.inl (List.mem_of_getElem? (i := 1) rfl))).trans K34 (allS (Or.inl (List.mem_of_getElem? (i := 1) rfl)) all0)).trans K39 (allS (Or.inl (List.mem_of_getElem? (i := 1) rfl)) all0)).wr W42 (Or.inl (List.mem_of_getElem? (i := 0) rfl))), ((((E_1.wr W30).keep K34).keep K39).wr W42), ((((F_1.other W30 (Or.inl n1)).keep K34 (ninS n1 nin0)).keep K39 (ninS n1 nin0)).other W42 (Or.inr (slot_ne (Or.inl (hw _ (List.mem_of_getElem? (i := 27) rfl))) (Or.inl (hw _ (List.mem_of_getElem? (i := 29) rfl))) (by decide) (t := (.array .int)) (t' := .int) (by decide) (by decide)))), F42, (A39.other W42 (Ne.symm n1))⟩⟩
theorem own_pd2 : parseMethodDescriptor "([II)[I" = some ⟨[(.array .int), .int], some (.array .int)⟩ := by decide +kernel
theorem own_d10_16 : decode prog_17_method_4_code 16 = .ok (.aload_n 0, 1) := by decide +kernel
theorem own_d10_17 : decode prog_17_method_4_code 17 = .ok (.aload_n 0, 1) := by decide +kernel
theorem own_d10_18 : decode prog_17_method_4_code 18 = .ok (.getfield 16, 3) := by decide +kernel
theorem own_d10_21 : decode prog_17_method_4_code 21 = .ok (.aload_n 0, 1) := by decide +kernel
theorem own_d10_22 : decode prog_17_method_4_code 22 = .ok (.getfield 16, 3) := by decide +kernel
theorem own_d10_25 : decode prog_17_method_4_code 25 = .ok (.arraylength, 1) := by decide +kernel
theorem own_d10_26 : decode prog_17_method_4_code 26 = .ok (.iconst 2, 1) := by decide +kernel
theorem own_d10_27 : decode prog_17_method_4_code 27 = .ok (.imul, 1) := by decide +kernel
theorem own_d10_28 : decode prog_17_method_4_code 28 = .ok (.invokestatic 32, 3) := by decide +kernel
theorem own_d10_31 : decode prog_17_method_4_code 31 = .ok (.putfield 16, 3) := by decide +kernel
theorem own_ef_rm_add2 (m : MethodId) (a1 : Addr) (p1 : Int32) (a2 : Addr) (a3 : Addr) : entryFrame m #[(.ref a1), (.int p1), (.ref a2), (.ref a3)] 4 = mkF m 0 #[.val (.ref a1), .val (.int p1), .val (.ref a2), .val (.ref a3)] [] := by first | (simp [entryFrame, mkF, argsToLocals, Value.category]; done) | rfl
def Qrm_add2 (Z : State) (a1 : Addr) (p1 : Int32) (a2 : Addr) (a3 : Addr) (aD : Addr) (aC : Addr) (vC : List Value) (y0 : Int32) (y1 : Int32) (y2 : Int32) (y3 : Int32) (y4 : Int32) (y5 : Int32) (m0 : Int32) (m1 : Int32) (d0 : Int32) (d1 : Int32) (d2 : Int32) (d3 : Int32) (d4 : Int32) (d5 : Int32) (d6 : Int32) (d7 : Int32) (d8 : Int32) (h0 : Heap) (n0 : Nat) (v : Option Value) (h : Heap) (L : List Loc) : Prop := ∃ d, v = none ∧ Fr n0 L ∧ Keep h0 h [a1] ∧ h0.size ≤ d ∧ Exa Z h a1 "com/example/tag_weighted_rank/tagweightedrank/Postings" ∧ Fld Z h a1 "com/example/tag_weighted_rank/tagweightedrank/Postings" "data" "[I" (.ref d) ∧ Fld Z h a1 "com/example/tag_weighted_rank/tagweightedrank/Postings" "length" "I" (.int (18 : Int32)) ∧ own_Ar Z h d .int [(.int d0), (.int d1), (.int d2), (.int d3), (.int d4), (.int d5), (.int d6), (.int d7), (.int d8), (.int p1), (.int y0), (.int y1), (.int y2), (.int y3), (.int y4), (.int y5), (.int m0), (.int m1)]
set_option maxRecDepth 65536 in
set_option maxHeartbeats 40000000 in
theorem rm_add2 (l : Launch) (Z : State) (a0 : Array Value) (hw : ∀ d ∈ tables_1, d.before a0 Z = true) (ws : List Jvm.Cond) (a1 : Addr) (p1 : Int32) (a2 : Addr) (a3 : Addr) (aD : Addr) (aC : Addr) (vC : List Value) (y0 : Int32) (y1 : Int32) (y2 : Int32) (y3 : Int32) (y4 : Int32) (y5 : Int32) (m0 : Int32) (m1 : Int32) (d0 : Int32) (d1 : Int32) (d2 : Int32) (d3 : Int32) (d4 : Int32) (d5 : Int32) (d6 : Int32) (d7 : Int32) (d8 : Int32) (h0 : Heap) (n0 : Nat) (O_0 : Old Z n0 h0) (S_S : Sta Z Z.heap "com/example/tag_weighted_rank/tagweightedrank/Postings" "STRIDE" "I" (.int (9 : Int32))) (S_M : Sta Z Z.heap "com/example/tag_weighted_rank/tagweightedrank/Postings" "MARKINGS" "I" (.int (2 : Int32))) (S_C : Sta Z Z.heap "com/example/tag_weighted_rank/tagweightedrank/Postings" "CLASSES" "[Lcom/example/tag_weighted_rank/tagweightedrank/TagClass;" (.ref aC)) (A_C : own_Ar Z Z.heap aC (.object "com/example/tag_weighted_rank/tagweightedrank/TagClass") vC) (hC : vC.length.toInt32 = 6) (E_1 : Exa Z h0 a1 "com/example/tag_weighted_rank/tagweightedrank/Postings") (F_1 : Fld Z h0 a1 "com/example/tag_weighted_rank/tagweightedrank/Postings" "data" "[I" (.ref aD)) (F_2 : Fld Z h0 a1 "com/example/tag_weighted_rank/tagweightedrank/Postings" "length" "I" (.int (9 : Int32))) (G_1 : n0 ≤ a1) (G_D : n0 ≤ aD) (A_D : own_Ar Z h0 aD .int [(.int d0), (.int d1), (.int d2), (.int d3), (.int d4), (.int d5), (.int d6), (.int d7), (.int d8)]) (A_2 : own_Ar Z h0 a2 .int [(.int y0), (.int y1), (.int y2), (.int y3), (.int y4), (.int y5)]) (A_3 : own_Ar Z h0 a3 .int [(.int m0), (.int m1)]) (n2 : a2 ≠ aD) (n3 : a3 ≠ aD) (n4 : a1 ≠ a2) (n5 : a1 ≠ a3) :
    own_Met l (⟨"com/example/tag_weighted_rank/tagweightedrank/Postings", "add", "(I[I[I)V"⟩ : MethodName) prog_17_method_4_code 4 none ws ({ frames := 2, cells := 1, slots := 18, locals := 64 } : Room) #[(.ref a1), (.int p1), (.ref a2), (.ref a3)] Z h0 (Qrm_add2 Z a1 p1 a2 a3 aD aC vC y0 y1 y2 y3 y4 y5 m0 m1 d0 d1 d2 d3 d4 d5 d6 d7 d8 h0 n0) := by
  refine own_body own_pn10 ?_
  intro p e s m below meth c T0 X0 hx hby hml hown hnm hret hlk hZ e0
  have N0 := Fr.nil n0
  refine own_st (fun t k => castTop (own_ef_rm_add2 m a1 p1 a2 a3) k) ?_
  show own_Go p.tables e below (T0.setTop (mkF m 0 #[.val (.ref a1), .val (.int p1), .val (.ref a2), .val (.ref a3)] [])) _
  have Z0 := own_Z0 O_0
  have n1 : a1 ≠ aD := by obtain ⟨cD, AD, -⟩ := A_D; exact ne_arr E_1 (hw _ (List.mem_of_getElem? (i := 13) rfl)) AD
  refine own_aloadN X0 hx hby own_d10_0 (pc' := 1) rfl rfl rfl ?_
  refine own_getF X0 hx hby own_d10_1 (pc' := 4) rfl hZ hown (host := "") (Or.inl (hw _ (List.mem_of_getElem? (i := 28) rfl))) Via.refl e0 F_2 ?_
  intro T43 X43 e43
  refine own_getS X43 hx hby own_d10_4 (pc' := 7) rfl hZ hown (host := "") (Or.inl (hw _ (List.mem_of_getElem? (i := 18) rfl))) Via.refl e43 (S_S.ext (O_0).2) ?_
  intro T44 X44 e44
  refine own_iadd X44 hx hby own_d10_7 (pc' := 8) rfl (z := (18 : Int32)) (by decide) ?_
  refine own_aloadN X44 hx hby own_d10_8 (pc' := 9) rfl rfl rfl ?_
  refine own_getF X44 hx hby own_d10_9 (pc' := 12) rfl hZ hown (host := "") (Or.inl (hw _ (List.mem_of_getElem? (i := 26) rfl))) Via.refl e44 F_1 ?_
  intro T45 X45 e45
  refine own_len X45 hx hby own_d10_12 (pc' := 13) rfl hZ e45 (A_D) (n := (9 : Int32)) (by rfl) ?_
  refine own_icmpNo X45 hx hby own_d10_13 (pc' := 16) rfl (by decide) ?_
  refine own_aloadN X45 hx hby own_d10_16 (pc' := 17) rfl rfl rfl ?_
  refine own_aloadN X45 hx hby own_d10_17 (pc' := 18) rfl rfl rfl ?_
  refine own_getF X45 hx hby own_d10_18 (pc' := 21) rfl hZ hown (host := "") (Or.inl (hw _ (List.mem_of_getElem? (i := 26) rfl))) Via.refl e45 F_1 ?_
  intro T46 X46 e46
  refine own_aloadN X46 hx hby own_d10_21 (pc' := 22) rfl rfl rfl ?_
  refine own_getF X46 hx hby own_d10_22 (pc' := 25) rfl hZ hown (host := "") (Or.inl (hw _ (List.mem_of_getElem? (i := 26) rfl))) Via.refl e46 F_1 ?_
  intro T47 X47 e47
  refine own_len X47 hx hby own_d10_25 (pc' := 26) rfl hZ e47 (A_D) (n := (9 : Int32)) (by rfl) ?_
  refine own_iconst X47 hx hby own_d10_26 (pc' := 27) rfl (z := (2 : Int32)) (by decide) ?_
  refine own_imul X47 hx hby own_d10_27 (pc' := 28) rfl (z := (18 : Int32)) (by decide) ?_
  refine own_callS X47 hx hZ (rm_cp9 l Z a0 hw [] aD d0 d1 d2 d3 d4 d5 d6 d7 d8 h0 n0 Z0 (A_D)) hown (hw _ (List.mem_of_getElem? (i := 54) rfl)) (hw _ (List.mem_of_getElem? (i := 55) rfl)) (hw _ (List.mem_of_getElem? (i := 56) rfl)) (hw _ (List.mem_of_getElem? (i := 57) rfl)) (by decide) (W := 1) (by decide) (by decide) (by rw [hml]; rfl) (argsL := [(.ref aD), (.int (18 : Int32))]) (rest := [(.ref a1)]) rfl (lenOf own_pd2 rfl) rfl (Nat.le_of_eq rfl) (hb hby own_d10_28) e47 (by decide) (by decide) ?_
  intro v48 T48 L48 X48 hQ48
  obtain ⟨b48, hv48, N48q, K48, g48, A48⟩ := hQ48
  subst hv48
  have N48 := Fr.app N0 N48q
  have l48 : n0 ≤ b48 := (Nat.le_trans Z0 (Nat.le_trans (Nat.le_refl _) g48))
  show own_Go p.tables e below (T48.setTop (mkF m 31 #[.val (.ref a1), .val (.int p1), .val (.ref a2), .val (.ref a3)] [(.ref b48), (.ref a1)])) _
  refine own_put X48 hx hby own_d10_31 (pc' := 34) rfl hZ hown (host := "") (Or.inl (hw _ (List.mem_of_getElem? (i := 26) rfl))) Via.refl rfl (F_1.keep K48 nin0) (E_1.keep K48) (Or.inl (hw _ (List.mem_of_getElem? (i := 27) rfl))) (hw _ (List.mem_of_getElem? (i := 13) rfl)) (ty := (.array .int)) (by decide) rfl rfl ?_
  intro T49 h49 X49 e49 W49
  have F49 := ((F_1.keep K48 nin0)).same W49
  have N49 := Fr.snoc X49 N48 G_1
  refine own_aloadN X49 hx hby own_d10_34 (pc' := 35) rfl rfl rfl ?_
  refine own_getF X49 hx hby own_d10_35 (pc' := 38) rfl hZ hown (host := "") (Or.inl (hw _ (List.mem_of_getElem? (i := 26) rfl))) Via.refl e49 F49 ?_
  intro T50 X50 e50
  refine own_aloadN X50 hx hby own_d10_38 (pc' := 39) rfl rfl rfl ?_
  refine own_getF X50 hx hby own_d10_39 (pc' := 42) rfl hZ hown (host := "") (Or.inl (hw _ (List.mem_of_getElem? (i := 28) rfl))) Via.refl e50 ((F_2.keep K48 nin0).other W49 (Or.inr (slot_ne (Or.inl (hw _ (List.mem_of_getElem? (i := 29) rfl))) (Or.inl (hw _ (List.mem_of_getElem? (i := 27) rfl))) (by decide) (t := .int) (t' := (.array .int)) (by decide) (by decide)))) ?_
  intro T51 X51 e51
  refine own_iloadN X51 hx hby own_d10_42 (pc' := 43) rfl rfl ?_
  refine own_iastore X51 hx hby own_d10_43 (pc' := 44) rfl hZ e51 ((A48.other W49 (Ne.symm (Nat.ne_of_lt (Nat.lt_of_lt_of_le (E_1).lt g48))))) (by decide) (v := (.int (0 : Int32))) rfl ?_
  intro T52 h52 X52 e52 W52 A52
  have B52 : own_Ar Z h52 b48 .int [(.int d0), (.int d1), (.int d2), (.int d3), (.int d4), (.int d5), (.int d6), (.int d7), (.int d8), (.int p1), (.int (0 : Int32)), (.int (0 : Int32)), (.int (0 : Int32)), (.int (0 : Int32)), (.int (0 : Int32)), (.int (0 : Int32)), (.int (0 : Int32)), (.int (0 : Int32))] := A52
  have N52 := Fr.snoc X52 N49 l48
  refine own_aloadN X52 hx hby own_d10_44 (pc' := 45) rfl rfl rfl ?_
  refine own_iconst X52 hx hby own_d10_45 (pc' := 46) rfl (z := (0 : Int32)) (by decide) ?_
  refine own_aloadN X52 hx hby own_d10_46 (pc' := 47) rfl rfl rfl ?_
  refine own_getF X52 hx hby own_d10_47 (pc' := 50) rfl hZ hown (host := "") (Or.inl (hw _ (List.mem_of_getElem? (i := 26) rfl))) Via.refl e52 (F49.other W52 (Or.inl (Nat.ne_of_lt (Nat.lt_of_lt_of_le (E_1).lt g48)))) ?_
  intro T53 X53 e53
  refine own_aloadN X53 hx hby own_d10_50 (pc' := 51) rfl rfl rfl ?_
  refine own_getF X53 hx hby own_d10_51 (pc' := 54) rfl hZ hown (host := "") (Or.inl (hw _ (List.mem_of_getElem? (i := 28) rfl))) Via.refl e53 (((F_2.keep K48 nin0).other W49 (Or.inr (slot_ne (Or.inl (hw _ (List.mem_of_getElem? (i := 29) rfl))) (Or.inl (hw _ (List.mem_of_getElem? (i := 27) rfl))) (by decide) (t := .int) (t' := (.array .int)) (by decide) (by decide)))).other W52 (Or.inl (Nat.ne_of_lt (Nat.lt_of_lt_of_le (E_1).lt g48)))) ?_
  intro T54 X54 e54
  refine own_iconst X54 hx hby own_d10_54 (pc' := 55) rfl (z := (1 : Int32)) (by decide) ?_
  refine own_iadd X54 hx hby own_d10_55 (pc' := 56) rfl (z := (10 : Int32)) (by decide) ?_
  refine own_getS X54 hx hby own_d10_56 (pc' := 59) rfl hZ hown (host := "") (Or.inl (hw _ (List.mem_of_getElem? (i := 35) rfl))) Via.refl e54 (S_C.ext ((((O_0.keep K48 all0).wr W49 G_1).wr W52 l48)).2) ?_
  intro T55 X55 e55
  refine own_len X55 hx hby own_d10_59 (pc' := 60) rfl hZ e55 (A_C.ext ((((O_0.keep K48 all0).wr W49 G_1).wr W52 l48)).2) hC ?_
  refine own_cp X55 hx hby own_d10_60 (pc' := 63) rfl hZ hown (hw _ (List.mem_of_getElem? (i := 48) rfl)) (hw _ (List.mem_of_getElem? (i := 51) rfl)) (hw _ (List.mem_of_getElem? (i := 49) rfl)) (hw _ (List.mem_of_getElem? (i := 50) rfl)) e55 (ty := .int) rfl ((((A_2.keep K48 nin0).other W49 (Ne.symm n4)).other W52 (Nat.ne_of_lt (Nat.lt_of_lt_of_le (A_2).lt g48)))) (B52) (by simp [fits]) (by simp [fits]) (by decide) (by decide) (by decide) (by show _ ≤ (6 : Nat); decide) (by show _ ≤ (18 : Nat); decide) (by show (6 : Nat) < _; decide) (by show (18 : Nat) < _; decide) (us := [(.int d0), (.int d1), (.int d2), (.int d3), (.int d4), (.int d5), (.int d6), (.int d7), (.int d8), (.int p1), (.int y0), (.int y1), (.int y2), (.int y3), (.int y4), (.int y5), (.int (0 : Int32)), (.int (0 : Int32))]) (by rfl) N52 l48 (by rw [hml]; rfl) (by decide) (W := 0) (Nat.le_of_eq rfl) (by decide) ?_
  intro T56 h56 L56 X56 e56 N56 K56 A56
  show own_Go p.tables e below (T56.setTop (mkF m 63 #[.val (.ref a1), .val (.int p1), .val (.ref a2), .val (.ref a3)] [])) _
  refine own_aloadN X56 hx hby own_d10_63 (pc' := 64) rfl rfl rfl ?_
  refine own_iconst X56 hx hby own_d10_64 (pc' := 65) rfl (z := (0 : Int32)) (by decide) ?_
  refine own_aloadN X56 hx hby own_d10_65 (pc' := 66) rfl rfl rfl ?_
  refine own_getF X56 hx hby own_d10_66 (pc' := 69) rfl hZ hown (host := "") (Or.inl (hw _ (List.mem_of_getElem? (i := 26) rfl))) Via.refl e56 ((F49.other W52 (Or.inl (Nat.ne_of_lt (Nat.lt_of_lt_of_le (E_1).lt g48)))).keep K56 (ninS (Nat.ne_of_lt (Nat.lt_of_lt_of_le (E_1).lt g48)) nin0)) ?_
  intro T57 X57 e57
  refine own_aloadN X57 hx hby own_d10_69 (pc' := 70) rfl rfl rfl ?_
  refine own_getF X57 hx hby own_d10_70 (pc' := 73) rfl hZ hown (host := "") (Or.inl (hw _ (List.mem_of_getElem? (i := 28) rfl))) Via.refl e57 ((((F_2.keep K48 nin0).other W49 (Or.inr (slot_ne (Or.inl (hw _ (List.mem_of_getElem? (i := 29) rfl))) (Or.inl (hw _ (List.mem_of_getElem? (i := 27) rfl))) (by decide) (t := .int) (t' := (.array .int)) (by decide) (by decide)))).other W52 (Or.inl (Nat.ne_of_lt (Nat.lt_of_lt_of_le (E_1).lt g48)))).keep K56 (ninS (Nat.ne_of_lt (Nat.lt_of_lt_of_le (E_1).lt g48)) nin0)) ?_
  intro T58 X58 e58
  refine own_iconst X58 hx hby own_d10_73 (pc' := 74) rfl (z := (1 : Int32)) (by decide) ?_
  refine own_iadd X58 hx hby own_d10_74 (pc' := 75) rfl (z := (10 : Int32)) (by decide) ?_
  refine own_getS X58 hx hby own_d10_75 (pc' := 78) rfl hZ hown (host := "") (Or.inl (hw _ (List.mem_of_getElem? (i := 35) rfl))) Via.refl e58 (S_C.ext (((((O_0.keep K48 all0).wr W49 G_1).wr W52 l48).keep K56 (allS l48 all0))).2) ?_
  intro T59 X59 e59
  refine own_len X59 hx hby own_d10_78 (pc' := 79) rfl hZ e59 (A_C.ext (((((O_0.keep K48 all0).wr W49 G_1).wr W52 l48).keep K56 (allS l48 all0))).2) hC ?_
  refine own_iadd X59 hx hby own_d10_79 (pc' := 80) rfl (z := (16 : Int32)) (by decide) ?_
  refine own_getS X59 hx hby own_d10_80 (pc' := 83) rfl hZ hown (host := "") (Or.inl (hw _ (List.mem_of_getElem? (i := 52) rfl))) Via.refl e59 (S_M.ext (((((O_0.keep K48 all0).wr W49 G_1).wr W52 l48).keep K56 (allS l48 all0))).2) ?_
  intro T60 X60 e60
  refine own_cp X60 hx hby own_d10_83 (pc' := 86) rfl hZ hown (hw _ (List.mem_of_getElem? (i := 48) rfl)) (hw _ (List.mem_of_getElem? (i := 51) rfl)) (hw _ (List.mem_of_getElem? (i := 49) rfl)) (hw _ (List.mem_of_getElem? (i := 50) rfl)) e60 (ty := .int) rfl (((((A_3.keep K48 nin0).other W49 (Ne.symm n5)).other W52 (Nat.ne_of_lt (Nat.lt_of_lt_of_le (A_3).lt g48))).keep K56 (ninS (Nat.ne_of_lt (Nat.lt_of_lt_of_le (A_3).lt g48)) nin0))) (A56) (by simp [fits]) (by simp [fits]) (by decide) (by decide) (by decide) (by show _ ≤ (2 : Nat); decide) (by show _ ≤ (18 : Nat); decide) (by show (2 : Nat) < _; decide) (by show (18 : Nat) < _; decide) (us := [(.int d0), (.int d1), (.int d2), (.int d3), (.int d4), (.int d5), (.int d6), (.int d7), (.int d8), (.int p1), (.int y0), (.int y1), (.int y2), (.int y3), (.int y4), (.int y5), (.int m0), (.int m1)]) (by rfl) N56 l48 (by rw [hml]; rfl) (by decide) (W := 0) (Nat.le_of_eq rfl) (by decide) ?_
  intro T61 h61 L61 X61 e61 N61 K61 A61
  show own_Go p.tables e below (T61.setTop (mkF m 86 #[.val (.ref a1), .val (.int p1), .val (.ref a2), .val (.ref a3)] [])) _
  refine own_aloadN X61 hx hby own_d10_86 (pc' := 87) rfl rfl rfl ?_
  refine own_dup X61 hx hby own_d10_87 (pc' := 88) rfl rfl ?_
  refine own_getF X61 hx hby own_d10_88 (pc' := 91) rfl hZ hown (host := "") (Or.inl (hw _ (List.mem_of_getElem? (i := 28) rfl))) Via.refl e61 (((((F_2.keep K48 nin0).other W49 (Or.inr (slot_ne (Or.inl (hw _ (List.mem_of_getElem? (i := 29) rfl))) (Or.inl (hw _ (List.mem_of_getElem? (i := 27) rfl))) (by decide) (t := .int) (t' := (.array .int)) (by decide) (by decide)))).other W52 (Or.inl (Nat.ne_of_lt (Nat.lt_of_lt_of_le (E_1).lt g48)))).keep K56 (ninS (Nat.ne_of_lt (Nat.lt_of_lt_of_le (E_1).lt g48)) nin0)).keep K61 (ninS (Nat.ne_of_lt (Nat.lt_of_lt_of_le (E_1).lt g48)) nin0)) ?_
  intro T62 X62 e62
  refine own_getS X62 hx hby own_d10_91 (pc' := 94) rfl hZ hown (host := "") (Or.inl (hw _ (List.mem_of_getElem? (i := 18) rfl))) Via.refl e62 (S_S.ext ((((((O_0.keep K48 all0).wr W49 G_1).wr W52 l48).keep K56 (allS l48 all0)).keep K61 (allS l48 all0))).2) ?_
  intro T63 X63 e63
  refine own_iadd X63 hx hby own_d10_94 (pc' := 95) rfl (z := (18 : Int32)) (by decide) ?_
  refine own_put X63 hx hby own_d10_95 (pc' := 98) rfl hZ hown (host := "") (Or.inl (hw _ (List.mem_of_getElem? (i := 28) rfl))) Via.refl e63 (((((F_2.keep K48 nin0).other W49 (Or.inr (slot_ne (Or.inl (hw _ (List.mem_of_getElem? (i := 29) rfl))) (Or.inl (hw _ (List.mem_of_getElem? (i := 27) rfl))) (by decide) (t := .int) (t' := (.array .int)) (by decide) (by decide)))).other W52 (Or.inl (Nat.ne_of_lt (Nat.lt_of_lt_of_le (E_1).lt g48)))).keep K56 (ninS (Nat.ne_of_lt (Nat.lt_of_lt_of_le (E_1).lt g48)) nin0)).keep K61 (ninS (Nat.ne_of_lt (Nat.lt_of_lt_of_le (E_1).lt g48)) nin0)) (((((E_1.keep K48).wr W49).wr W52).keep K56).keep K61) (Or.inl (hw _ (List.mem_of_getElem? (i := 29) rfl))) (hw _ (List.mem_of_getElem? (i := 13) rfl)) (ty := .int) (by decide) rfl rfl ?_
  intro T64 h64 X64 e64 W64
  have F64 := ((((((F_2.keep K48 nin0).other W49 (Or.inr (slot_ne (Or.inl (hw _ (List.mem_of_getElem? (i := 29) rfl))) (Or.inl (hw _ (List.mem_of_getElem? (i := 27) rfl))) (by decide) (t := .int) (t' := (.array .int)) (by decide) (by decide)))).other W52 (Or.inl (Nat.ne_of_lt (Nat.lt_of_lt_of_le (E_1).lt g48)))).keep K56 (ninS (Nat.ne_of_lt (Nat.lt_of_lt_of_le (E_1).lt g48)) nin0)).keep K61 (ninS (Nat.ne_of_lt (Nat.lt_of_lt_of_le (E_1).lt g48)) nin0))).same W64
  have N64 := Fr.snoc X64 N61 G_1
  exact own_retV X64 hx hret (hb hby own_d10_98) hlk (by decide) (by decide) ⟨b48, rfl, N64, by rw [e64]; exact ⟨(((((((Keep.refl h0 [a1]).trans K48 all0).wr W49 (Or.inl (List.mem_of_getElem? (i := 0) rfl))).wr W52 (Or.inr (Nat.le_trans (Nat.le_refl _) g48))).trans K56 (allS (Or.inr (Nat.le_trans (Nat.le_refl _) g48)) all0)).trans K61 (allS (Or.inr (Nat.le_trans (Nat.le_refl _) g48)) all0)).wr W64 (Or.inl (List.mem_of_getElem? (i := 0) rfl))), (Nat.le_trans (Nat.le_refl _) g48), ((((((E_1.keep K48).wr W49).wr W52).keep K56).keep K61).wr W64), ((((F49.other W52 (Or.inl (Nat.ne_of_lt (Nat.lt_of_lt_of_le (E_1).lt g48)))).keep K56 (ninS (Nat.ne_of_lt (Nat.lt_of_lt_of_le (E_1).lt g48)) nin0)).keep K61 (ninS (Nat.ne_of_lt (Nat.lt_of_lt_of_le (E_1).lt g48)) nin0)).other W64 (Or.inr (slot_ne (Or.inl (hw _ (List.mem_of_getElem? (i := 27) rfl))) (Or.inl (hw _ (List.mem_of_getElem? (i := 29) rfl))) (by decide) (t := (.array .int)) (t' := .int) (by decide) (by decide)))), F64, (A61.other W64 (Ne.symm (Nat.ne_of_lt (Nat.lt_of_lt_of_le (E_1).lt g48))))⟩⟩
theorem own_ef_rm_add3 (m : MethodId) (a1 : Addr) (p1 : Int32) (a2 : Addr) (a3 : Addr) : entryFrame m #[(.ref a1), (.int p1), (.ref a2), (.ref a3)] 4 = mkF m 0 #[.val (.ref a1), .val (.int p1), .val (.ref a2), .val (.ref a3)] [] := by first | (simp [entryFrame, mkF, argsToLocals, Value.category]; done) | rfl
def Qrm_add3 (Z : State) (a1 : Addr) (p1 : Int32) (a2 : Addr) (a3 : Addr) (aD : Addr) (aC : Addr) (vC : List Value) (y0 : Int32) (y1 : Int32) (y2 : Int32) (y3 : Int32) (y4 : Int32) (y5 : Int32) (m0 : Int32) (m1 : Int32) (d0 : Int32) (d1 : Int32) (d2 : Int32) (d3 : Int32) (d4 : Int32) (d5 : Int32) (d6 : Int32) (d7 : Int32) (d8 : Int32) (d9 : Int32) (d10 : Int32) (d11 : Int32) (d12 : Int32) (d13 : Int32) (d14 : Int32) (d15 : Int32) (d16 : Int32) (d17 : Int32) (h0 : Heap) (n0 : Nat) (v : Option Value) (h : Heap) (L : List Loc) : Prop := ∃ d, v = none ∧ Fr n0 L ∧ Keep h0 h [a1] ∧ h0.size ≤ d ∧ Exa Z h a1 "com/example/tag_weighted_rank/tagweightedrank/Postings" ∧ Fld Z h a1 "com/example/tag_weighted_rank/tagweightedrank/Postings" "data" "[I" (.ref d) ∧ Fld Z h a1 "com/example/tag_weighted_rank/tagweightedrank/Postings" "length" "I" (.int (27 : Int32)) ∧ own_Ar Z h d .int [(.int d0), (.int d1), (.int d2), (.int d3), (.int d4), (.int d5), (.int d6), (.int d7), (.int d8), (.int d9), (.int d10), (.int d11), (.int d12), (.int d13), (.int d14), (.int d15), (.int d16), (.int d17), (.int p1), (.int y0), (.int y1), (.int y2), (.int y3), (.int y4), (.int y5), (.int m0), (.int m1), (.int (0 : Int32)), (.int (0 : Int32)), (.int (0 : Int32)), (.int (0 : Int32)), (.int (0 : Int32)), (.int (0 : Int32)), (.int (0 : Int32)), (.int (0 : Int32)), (.int (0 : Int32))]
set_option maxRecDepth 65536 in
set_option maxHeartbeats 40000000 in
theorem rm_add3 (l : Launch) (Z : State) (a0 : Array Value) (hw : ∀ d ∈ tables_1, d.before a0 Z = true) (ws : List Jvm.Cond) (a1 : Addr) (p1 : Int32) (a2 : Addr) (a3 : Addr) (aD : Addr) (aC : Addr) (vC : List Value) (y0 : Int32) (y1 : Int32) (y2 : Int32) (y3 : Int32) (y4 : Int32) (y5 : Int32) (m0 : Int32) (m1 : Int32) (d0 : Int32) (d1 : Int32) (d2 : Int32) (d3 : Int32) (d4 : Int32) (d5 : Int32) (d6 : Int32) (d7 : Int32) (d8 : Int32) (d9 : Int32) (d10 : Int32) (d11 : Int32) (d12 : Int32) (d13 : Int32) (d14 : Int32) (d15 : Int32) (d16 : Int32) (d17 : Int32) (h0 : Heap) (n0 : Nat) (O_0 : Old Z n0 h0) (S_S : Sta Z Z.heap "com/example/tag_weighted_rank/tagweightedrank/Postings" "STRIDE" "I" (.int (9 : Int32))) (S_M : Sta Z Z.heap "com/example/tag_weighted_rank/tagweightedrank/Postings" "MARKINGS" "I" (.int (2 : Int32))) (S_C : Sta Z Z.heap "com/example/tag_weighted_rank/tagweightedrank/Postings" "CLASSES" "[Lcom/example/tag_weighted_rank/tagweightedrank/TagClass;" (.ref aC)) (A_C : own_Ar Z Z.heap aC (.object "com/example/tag_weighted_rank/tagweightedrank/TagClass") vC) (hC : vC.length.toInt32 = 6) (E_1 : Exa Z h0 a1 "com/example/tag_weighted_rank/tagweightedrank/Postings") (F_1 : Fld Z h0 a1 "com/example/tag_weighted_rank/tagweightedrank/Postings" "data" "[I" (.ref aD)) (F_2 : Fld Z h0 a1 "com/example/tag_weighted_rank/tagweightedrank/Postings" "length" "I" (.int (18 : Int32))) (G_1 : n0 ≤ a1) (G_D : n0 ≤ aD) (A_D : own_Ar Z h0 aD .int [(.int d0), (.int d1), (.int d2), (.int d3), (.int d4), (.int d5), (.int d6), (.int d7), (.int d8), (.int d9), (.int d10), (.int d11), (.int d12), (.int d13), (.int d14), (.int d15), (.int d16), (.int d17)]) (A_2 : own_Ar Z h0 a2 .int [(.int y0), (.int y1), (.int y2), (.int y3), (.int y4), (.int y5)]) (A_3 : own_Ar Z h0 a3 .int [(.int m0), (.int m1)]) (n2 : a2 ≠ aD) (n3 : a3 ≠ aD) (n4 : a1 ≠ a2) (n5 : a1 ≠ a3) :
    own_Met l (⟨"com/example/tag_weighted_rank/tagweightedrank/Postings", "add", "(I[I[I)V"⟩ : MethodName) prog_17_method_4_code 4 none ws ({ frames := 2, cells := 1, slots := 36, locals := 64 } : Room) #[(.ref a1), (.int p1), (.ref a2), (.ref a3)] Z h0 (Qrm_add3 Z a1 p1 a2 a3 aD aC vC y0 y1 y2 y3 y4 y5 m0 m1 d0 d1 d2 d3 d4 d5 d6 d7 d8 d9 d10 d11 d12 d13 d14 d15 d16 d17 h0 n0) := by
  refine own_body own_pn10 ?_
  intro p e s m below meth c T0 X0 hx hby hml hown hnm hret hlk hZ e0
  have N0 := Fr.nil n0
  refine own_st (fun t k => castTop (own_ef_rm_add3 m a1 p1 a2 a3) k) ?_
  show own_Go p.tables e below (T0.setTop (mkF m 0 #[.val (.ref a1), .val (.int p1), .val (.ref a2), .val (.ref a3)] [])) _
  have Z0 := own_Z0 O_0
  have n1 : a1 ≠ aD := by obtain ⟨cD, AD, -⟩ := A_D; exact ne_arr E_1 (hw _ (List.mem_of_getElem? (i := 13) rfl)) AD
  refine own_aloadN X0 hx hby own_d10_0 (pc' := 1) rfl rfl rfl ?_
  refine own_getF X0 hx hby own_d10_1 (pc' := 4) rfl hZ hown (host := "") (Or.inl (hw _ (List.mem_of_getElem? (i := 28) rfl))) Via.refl e0 F_2 ?_
  intro T65 X65 e65
  refine own_getS X65 hx hby own_d10_4 (pc' := 7) rfl hZ hown (host := "") (Or.inl (hw _ (List.mem_of_getElem? (i := 18) rfl))) Via.refl e65 (S_S.ext (O_0).2) ?_
  intro T66 X66 e66
  refine own_iadd X66 hx hby own_d10_7 (pc' := 8) rfl (z := (27 : Int32)) (by decide) ?_
  refine own_aloadN X66 hx hby own_d10_8 (pc' := 9) rfl rfl rfl ?_
  refine own_getF X66 hx hby own_d10_9 (pc' := 12) rfl hZ hown (host := "") (Or.inl (hw _ (List.mem_of_getElem? (i := 26) rfl))) Via.refl e66 F_1 ?_
  intro T67 X67 e67
  refine own_len X67 hx hby own_d10_12 (pc' := 13) rfl hZ e67 (A_D) (n := (18 : Int32)) (by rfl) ?_
  refine own_icmpNo X67 hx hby own_d10_13 (pc' := 16) rfl (by decide) ?_
  refine own_aloadN X67 hx hby own_d10_16 (pc' := 17) rfl rfl rfl ?_
  refine own_aloadN X67 hx hby own_d10_17 (pc' := 18) rfl rfl rfl ?_
  refine own_getF X67 hx hby own_d10_18 (pc' := 21) rfl hZ hown (host := "") (Or.inl (hw _ (List.mem_of_getElem? (i := 26) rfl))) Via.refl e67 F_1 ?_
  intro T68 X68 e68
  refine own_aloadN X68 hx hby own_d10_21 (pc' := 22) rfl rfl rfl ?_
  refine own_getF X68 hx hby own_d10_22 (pc' := 25) rfl hZ hown (host := "") (Or.inl (hw _ (List.mem_of_getElem? (i := 26) rfl))) Via.refl e68 F_1 ?_
  intro T69 X69 e69
  refine own_len X69 hx hby own_d10_25 (pc' := 26) rfl hZ e69 (A_D) (n := (18 : Int32)) (by rfl) ?_
  refine own_iconst X69 hx hby own_d10_26 (pc' := 27) rfl (z := (2 : Int32)) (by decide) ?_
  refine own_imul X69 hx hby own_d10_27 (pc' := 28) rfl (z := (36 : Int32)) (by decide) ?_
  refine own_callS X69 hx hZ (rm_cp18 l Z a0 hw [] aD d0 d1 d2 d3 d4 d5 d6 d7 d8 d9 d10 d11 d12 d13 d14 d15 d16 d17 h0 n0 Z0 (A_D)) hown (hw _ (List.mem_of_getElem? (i := 54) rfl)) (hw _ (List.mem_of_getElem? (i := 55) rfl)) (hw _ (List.mem_of_getElem? (i := 56) rfl)) (hw _ (List.mem_of_getElem? (i := 57) rfl)) (by decide) (W := 1) (by decide) (by decide) (by rw [hml]; rfl) (argsL := [(.ref aD), (.int (36 : Int32))]) (rest := [(.ref a1)]) rfl (lenOf own_pd2 rfl) rfl (Nat.le_of_eq rfl) (hb hby own_d10_28) e69 (by decide) (by decide) ?_
  intro v70 T70 L70 X70 hQ70
  obtain ⟨b70, hv70, N70q, K70, g70, A70⟩ := hQ70
  subst hv70
  have N70 := Fr.app N0 N70q
  have l70 : n0 ≤ b70 := (Nat.le_trans Z0 (Nat.le_trans (Nat.le_refl _) g70))
  show own_Go p.tables e below (T70.setTop (mkF m 31 #[.val (.ref a1), .val (.int p1), .val (.ref a2), .val (.ref a3)] [(.ref b70), (.ref a1)])) _
  refine own_put X70 hx hby own_d10_31 (pc' := 34) rfl hZ hown (host := "") (Or.inl (hw _ (List.mem_of_getElem? (i := 26) rfl))) Via.refl rfl (F_1.keep K70 nin0) (E_1.keep K70) (Or.inl (hw _ (List.mem_of_getElem? (i := 27) rfl))) (hw _ (List.mem_of_getElem? (i := 13) rfl)) (ty := (.array .int)) (by decide) rfl rfl ?_
  intro T71 h71 X71 e71 W71
  have F71 := ((F_1.keep K70 nin0)).same W71
  have N71 := Fr.snoc X71 N70 G_1
  refine own_aloadN X71 hx hby own_d10_34 (pc' := 35) rfl rfl rfl ?_
  refine own_getF X71 hx hby own_d10_35 (pc' := 38) rfl hZ hown (host := "") (Or.inl (hw _ (List.mem_of_getElem? (i := 26) rfl))) Via.refl e71 F71 ?_
  intro T72 X72 e72
  refine own_aloadN X72 hx hby own_d10_38 (pc' := 39) rfl rfl rfl ?_
  refine own_getF X72 hx hby own_d10_39 (pc' := 42) rfl hZ hown (host := "") (Or.inl (hw _ (List.mem_of_getElem? (i := 28) rfl))) Via.refl e72 ((F_2.keep K70 nin0).other W71 (Or.inr (slot_ne (Or.inl (hw _ (List.mem_of_getElem? (i := 29) rfl))) (Or.inl (hw _ (List.mem_of_getElem? (i := 27) rfl))) (by decide) (t := .int) (t' := (.array .int)) (by decide) (by decide)))) ?_
  intro T73 X73 e73
  refine own_iloadN X73 hx hby own_d10_42 (pc' := 43) rfl rfl ?_
  refine own_iastore X73 hx hby own_d10_43 (pc' := 44) rfl hZ e73 ((A70.other W71 (Ne.symm (Nat.ne_of_lt (Nat.lt_of_lt_of_le (E_1).lt g70))))) (by decide) (v := (.int (0 : Int32))) rfl ?_
  intro T74 h74 X74 e74 W74 A74
  have B74 : own_Ar Z h74 b70 .int [(.int d0), (.int d1), (.int d2), (.int d3), (.int d4), (.int d5), (.int d6), (.int d7), (.int d8), (.int d9), (.int d10), (.int d11), (.int d12), (.int d13), (.int d14), (.int d15), (.int d16), (.int d17), (.int p1), (.int (0 : Int32)), (.int (0 : Int32)), (.int (0 : Int32)), (.int (0 : Int32)), (.int (0 : Int32)), (.int (0 : Int32)), (.int (0 : Int32)), (.int (0 : Int32)), (.int (0 : Int32)), (.int (0 : Int32)), (.int (0 : Int32)), (.int (0 : Int32)), (.int (0 : Int32)), (.int (0 : Int32)), (.int (0 : Int32)), (.int (0 : Int32)), (.int (0 : Int32))] := A74
  have N74 := Fr.snoc X74 N71 l70
  refine own_aloadN X74 hx hby own_d10_44 (pc' := 45) rfl rfl rfl ?_
  refine own_iconst X74 hx hby own_d10_45 (pc' := 46) rfl (z := (0 : Int32)) (by decide) ?_
  refine own_aloadN X74 hx hby own_d10_46 (pc' := 47) rfl rfl rfl ?_
  refine own_getF X74 hx hby own_d10_47 (pc' := 50) rfl hZ hown (host := "") (Or.inl (hw _ (List.mem_of_getElem? (i := 26) rfl))) Via.refl e74 (F71.other W74 (Or.inl (Nat.ne_of_lt (Nat.lt_of_lt_of_le (E_1).lt g70)))) ?_
  intro T75 X75 e75
  refine own_aloadN X75 hx hby own_d10_50 (pc' := 51) rfl rfl rfl ?_
  refine own_getF X75 hx hby own_d10_51 (pc' := 54) rfl hZ hown (host := "") (Or.inl (hw _ (List.mem_of_getElem? (i := 28) rfl))) Via.refl e75 (((F_2.keep K70 nin0).other W71 (Or.inr (slot_ne (Or.inl (hw _ (List.mem_of_getElem? (i := 29) rfl))) (Or.inl (hw _ (List.mem_of_getElem? (i := 27) rfl))) (by decide) (t := .int) (t' := (.array .int)) (by decide) (by decide)))).other W74 (Or.inl (Nat.ne_of_lt (Nat.lt_of_lt_of_le (E_1).lt g70)))) ?_
  intro T76 X76 e76
  refine own_iconst X76 hx hby own_d10_54 (pc' := 55) rfl (z := (1 : Int32)) (by decide) ?_
  refine own_iadd X76 hx hby own_d10_55 (pc' := 56) rfl (z := (19 : Int32)) (by decide) ?_
  refine own_getS X76 hx hby own_d10_56 (pc' := 59) rfl hZ hown (host := "") (Or.inl (hw _ (List.mem_of_getElem? (i := 35) rfl))) Via.refl e76 (S_C.ext ((((O_0.keep K70 all0).wr W71 G_1).wr W74 l70)).2) ?_
  intro T77 X77 e77
  refine own_len X77 hx hby own_d10_59 (pc' := 60) rfl hZ e77 (A_C.ext ((((O_0.keep K70 all0).wr W71 G_1).wr W74 l70)).2) hC ?_
  refine own_cp X77 hx hby own_d10_60 (pc' := 63) rfl hZ hown (hw _ (List.mem_of_getElem? (i := 48) rfl)) (hw _ (List.mem_of_getElem? (i := 51) rfl)) (hw _ (List.mem_of_getElem? (i := 49) rfl)) (hw _ (List.mem_of_getElem? (i := 50) rfl)) e77 (ty := .int) rfl ((((A_2.keep K70 nin0).other W71 (Ne.symm n4)).other W74 (Nat.ne_of_lt (Nat.lt_of_lt_of_le (A_2).lt g70)))) (B74) (by simp [fits]) (by simp [fits]) (by decide) (by decide) (by decide) (by show _ ≤ (6 : Nat); decide) (by show _ ≤ (36 : Nat); decide) (by show (6 : Nat) < _; decide) (by show (36 : Nat) < _; decide) (us := [(.int d0), (.int d1), (.int d2), (.int d3), (.int d4), (.int d5), (.int d6), (.int d7), (.int d8), (.int d9), (.int d10), (.int d11), (.int d12), (.int d13), (.int d14), (.int d15), (.int d16), (.int d17), (.int p1), (.int y0), (.int y1), (.int y2), (.int y3), (.int y4), (.int y5), (.int (0 : Int32)), (.int (0 : Int32)), (.int (0 : Int32)), (.int (0 : Int32)), (.int (0 : Int32)), (.int (0 : Int32)), (.int (0 : Int32)), (.int (0 : Int32)), (.int (0 : Int32)), (.int (0 : Int32)), (.int (0 : Int32))]) (by rfl) N74 l70 (by rw [hml]; rfl) (by decide) (W := 0) (Nat.le_of_eq rfl) (by decide) ?_
  intro T78 h78 L78 X78 e78 N78 K78 A78
  show own_Go p.tables e below (T78.setTop (mkF m 63 #[.val (.ref a1), .val (.int p1), .val (.ref a2), .val (.ref a3)] [])) _
  refine own_aloadN X78 hx hby own_d10_63 (pc' := 64) rfl rfl rfl ?_
  refine own_iconst X78 hx hby own_d10_64 (pc' := 65) rfl (z := (0 : Int32)) (by decide) ?_
  refine own_aloadN X78 hx hby own_d10_65 (pc' := 66) rfl rfl rfl ?_
  refine own_getF X78 hx hby own_d10_66 (pc' := 69) rfl hZ hown (host := "") (Or.inl (hw _ (List.mem_of_getElem? (i := 26) rfl))) Via.refl e78 ((F71.other W74 (Or.inl (Nat.ne_of_lt (Nat.lt_of_lt_of_le (E_1).lt g70)))).keep K78 (ninS (Nat.ne_of_lt (Nat.lt_of_lt_of_le (E_1).lt g70)) nin0)) ?_
  intro T79 X79 e79
  refine own_aloadN X79 hx hby own_d10_69 (pc' := 70) rfl rfl rfl ?_
  refine own_getF X79 hx hby own_d10_70 (pc' := 73) rfl hZ hown (host := "") (Or.inl (hw _ (List.mem_of_getElem? (i := 28) rfl))) Via.refl e79 ((((F_2.keep K70 nin0).other W71 (Or.inr (slot_ne (Or.inl (hw _ (List.mem_of_getElem? (i := 29) rfl))) (Or.inl (hw _ (List.mem_of_getElem? (i := 27) rfl))) (by decide) (t := .int) (t' := (.array .int)) (by decide) (by decide)))).other W74 (Or.inl (Nat.ne_of_lt (Nat.lt_of_lt_of_le (E_1).lt g70)))).keep K78 (ninS (Nat.ne_of_lt (Nat.lt_of_lt_of_le (E_1).lt g70)) nin0)) ?_
  intro T80 X80 e80
  refine own_iconst X80 hx hby own_d10_73 (pc' := 74) rfl (z := (1 : Int32)) (by decide) ?_
  refine own_iadd X80 hx hby own_d10_74 (pc' := 75) rfl (z := (19 : Int32)) (by decide) ?_
  refine own_getS X80 hx hby own_d10_75 (pc' := 78) rfl hZ hown (host := "") (Or.inl (hw _ (List.mem_of_getElem? (i := 35) rfl))) Via.refl e80 (S_C.ext (((((O_0.keep K70 all0).wr W71 G_1).wr W74 l70).keep K78 (allS l70 all0))).2) ?_
  intro T81 X81 e81
  refine own_len X81 hx hby own_d10_78 (pc' := 79) rfl hZ e81 (A_C.ext (((((O_0.keep K70 all0).wr W71 G_1).wr W74 l70).keep K78 (allS l70 all0))).2) hC ?_
  refine own_iadd X81 hx hby own_d10_79 (pc' := 80) rfl (z := (25 : Int32)) (by decide) ?_
  refine own_getS X81 hx hby own_d10_80 (pc' := 83) rfl hZ hown (host := "") (Or.inl (hw _ (List.mem_of_getElem? (i := 52) rfl))) Via.refl e81 (S_M.ext (((((O_0.keep K70 all0).wr W71 G_1).wr W74 l70).keep K78 (allS l70 all0))).2) ?_
  intro T82 X82 e82
  refine own_cp X82 hx hby own_d10_83 (pc' := 86) rfl hZ hown (hw _ (List.mem_of_getElem? (i := 48) rfl)) (hw _ (List.mem_of_getElem? (i := 51) rfl)) (hw _ (List.mem_of_getElem? (i := 49) rfl)) (hw _ (List.mem_of_getElem? (i := 50) rfl)) e82 (ty := .int) rfl (((((A_3.keep K70 nin0).other W71 (Ne.symm n5)).other W74 (Nat.ne_of_lt (Nat.lt_of_lt_of_le (A_3).lt g70))).keep K78 (ninS (Nat.ne_of_lt (Nat.lt_of_lt_of_le (A_3).lt g70)) nin0))) (A78) (by simp [fits]) (by simp [fits]) (by decide) (by decide) (by decide) (by show _ ≤ (2 : Nat); decide) (by show _ ≤ (36 : Nat); decide) (by show (2 : Nat) < _; decide) (by show (36 : Nat) < _; decide) (us := [(.int d0), (.int d1), (.int d2), (.int d3), (.int d4), (.int d5), (.int d6), (.int d7), (.int d8), (.int d9), (.int d10), (.int d11), (.int d12), (.int d13), (.int d14), (.int d15), (.int d16), (.int d17), (.int p1), (.int y0), (.int y1), (.int y2), (.int y3), (.int y4), (.int y5), (.int m0), (.int m1), (.int (0 : Int32)), (.int (0 : Int32)), (.int (0 : Int32)), (.int (0 : Int32)), (.int (0 : Int32)), (.int (0 : Int32)), (.int (0 : Int32)), (.int (0 : Int32)), (.int (0 : Int32))]) (by rfl) N78 l70 (by rw [hml]; rfl) (by decide) (W := 0) (Nat.le_of_eq rfl) (by decide) ?_
  intro T83 h83 L83 X83 e83 N83 K83 A83
  show own_Go p.tables e below (T83.setTop (mkF m 86 #[.val (.ref a1), .val (.int p1), .val (.ref a2), .val (.ref a3)] [])) _
  refine own_aloadN X83 hx hby own_d10_86 (pc' := 87) rfl rfl rfl ?_
  refine own_dup X83 hx hby own_d10_87 (pc' := 88) rfl rfl ?_
  refine own_getF X83 hx hby own_d10_88 (pc' := 91) rfl hZ hown (host := "") (Or.inl (hw _ (List.mem_of_getElem? (i := 28) rfl))) Via.refl e83 (((((F_2.keep K70 nin0).other W71 (Or.inr (slot_ne (Or.inl (hw _ (List.mem_of_getElem? (i := 29) rfl))) (Or.inl (hw _ (List.mem_of_getElem? (i := 27) rfl))) (by decide) (t := .int) (t' := (.array .int)) (by decide) (by decide)))).other W74 (Or.inl (Nat.ne_of_lt (Nat.lt_of_lt_of_le (E_1).lt g70)))).keep K78 (ninS (Nat.ne_of_lt (Nat.lt_of_lt_of_le (E_1).lt g70)) nin0)).keep K83 (ninS (Nat.ne_of_lt (Nat.lt_of_lt_of_le (E_1).lt g70)) nin0)) ?_
  intro T84 X84 e84
  refine own_getS X84 hx hby own_d10_91 (pc' := 94) rfl hZ hown (host := "") (Or.inl (hw _ (List.mem_of_getElem? (i := 18) rfl))) Via.refl e84 (S_S.ext ((((((O_0.keep K70 all0).wr W71 G_1).wr W74 l70).keep K78 (allS l70 all0)).keep K83 (allS l70 all0))).2) ?_
  intro T85 X85 e85
  refine own_iadd X85 hx hby own_d10_94 (pc' := 95) rfl (z := (27 : Int32)) (by decide) ?_
  refine own_put X85 hx hby own_d10_95 (pc' := 98) rfl hZ hown (host := "") (Or.inl (hw _ (List.mem_of_getElem? (i := 28) rfl))) Via.refl e85 (((((F_2.keep K70 nin0).other W71 (Or.inr (slot_ne (Or.inl (hw _ (List.mem_of_getElem? (i := 29) rfl))) (Or.inl (hw _ (List.mem_of_getElem? (i := 27) rfl))) (by decide) (t := .int) (t' := (.array .int)) (by decide) (by decide)))).other W74 (Or.inl (Nat.ne_of_lt (Nat.lt_of_lt_of_le (E_1).lt g70)))).keep K78 (ninS (Nat.ne_of_lt (Nat.lt_of_lt_of_le (E_1).lt g70)) nin0)).keep K83 (ninS (Nat.ne_of_lt (Nat.lt_of_lt_of_le (E_1).lt g70)) nin0)) (((((E_1.keep K70).wr W71).wr W74).keep K78).keep K83) (Or.inl (hw _ (List.mem_of_getElem? (i := 29) rfl))) (hw _ (List.mem_of_getElem? (i := 13) rfl)) (ty := .int) (by decide) rfl rfl ?_
  intro T86 h86 X86 e86 W86
  have F86 := ((((((F_2.keep K70 nin0).other W71 (Or.inr (slot_ne (Or.inl (hw _ (List.mem_of_getElem? (i := 29) rfl))) (Or.inl (hw _ (List.mem_of_getElem? (i := 27) rfl))) (by decide) (t := .int) (t' := (.array .int)) (by decide) (by decide)))).other W74 (Or.inl (Nat.ne_of_lt (Nat.lt_of_lt_of_le (E_1).lt g70)))).keep K78 (ninS (Nat.ne_of_lt (Nat.lt_of_lt_of_le (E_1).lt g70)) nin0)).keep K83 (ninS (Nat.ne_of_lt (Nat.lt_of_lt_of_le (E_1).lt g70)) nin0))).same W86
  have N86 := Fr.snoc X86 N83 G_1
  exact own_retV X86 hx hret (hb hby own_d10_98) hlk (by decide) (by decide) ⟨b70, rfl, N86, by rw [e86]; exact ⟨(((((((Keep.refl h0 [a1]).trans K70 all0).wr W71 (Or.inl (List.mem_of_getElem? (i := 0) rfl))).wr W74 (Or.inr (Nat.le_trans (Nat.le_refl _) g70))).trans K78 (allS (Or.inr (Nat.le_trans (Nat.le_refl _) g70)) all0)).trans K83 (allS (Or.inr (Nat.le_trans (Nat.le_refl _) g70)) all0)).wr W86 (Or.inl (List.mem_of_getElem? (i := 0) rfl))), (Nat.le_trans (Nat.le_refl _) g70), ((((((E_1.keep K70).wr W71).wr W74).keep K78).keep K83).wr W86), ((((F71.other W74 (Or.inl (Nat.ne_of_lt (Nat.lt_of_lt_of_le (E_1).lt g70)))).keep K78 (ninS (Nat.ne_of_lt (Nat.lt_of_lt_of_le (E_1).lt g70)) nin0)).keep K83 (ninS (Nat.ne_of_lt (Nat.lt_of_lt_of_le (E_1).lt g70)) nin0)).other W86 (Or.inr (slot_ne (Or.inl (hw _ (List.mem_of_getElem? (i := 27) rfl))) (Or.inl (hw _ (List.mem_of_getElem? (i := 29) rfl))) (by decide) (t := (.array .int)) (t' := .int) (by decide) (by decide)))), F86, (A83.other W86 (Ne.symm (Nat.ne_of_lt (Nat.lt_of_lt_of_le (E_1).lt g70))))⟩⟩
theorem own_d7_19 : decode prog_17_method_7_code 19 = .ok (.iload_n 3, 1) := by decide +kernel
theorem own_d7_20 : decode prog_17_method_7_code 20 = .ok (.getstatic 38, 3) := by decide +kernel
theorem own_d7_23 : decode prog_17_method_7_code 23 = .ok (.arraylength, 1) := by decide +kernel
theorem own_d7_24 : decode prog_17_method_7_code 24 = .ok (.if_icmp .ge 27, 3) := by decide +kernel
theorem own_d7_27 : decode prog_17_method_7_code 27 = .ok (.aload_n 0, 1) := by decide +kernel
theorem own_d7_28 : decode prog_17_method_7_code 28 = .ok (.getfield 16, 3) := by decide +kernel
theorem own_d7_31 : decode prog_17_method_7_code 31 = .ok (.iload_n 2, 1) := by decide +kernel
theorem own_d7_32 : decode prog_17_method_7_code 32 = .ok (.iload_n 3, 1) := by decide +kernel
theorem own_d7_33 : decode prog_17_method_7_code 33 = .ok (.iadd, 1) := by decide +kernel
theorem own_d7_34 : decode prog_17_method_7_code 34 = .ok (.iaload, 1) := by decide +kernel
theorem own_d7_35 : decode prog_17_method_7_code 35 = .ok (.ifCond .le 10, 3) := by decide +kernel
theorem own_d7_38 : decode prog_17_method_7_code 38 = .ok (.aload_n 1, 1) := by decide +kernel
theorem own_d7_39 : decode prog_17_method_7_code 39 = .ok (.iload_n 3, 1) := by decide +kernel
theorem own_d7_40 : decode prog_17_method_7_code 40 = .ok (.dup2, 1) := by decide +kernel
theorem own_d7_41 : decode prog_17_method_7_code 41 = .ok (.iaload, 1) := by decide +kernel
theorem own_d7_42 : decode prog_17_method_7_code 42 = .ok (.iconst 1, 1) := by decide +kernel
theorem own_d7_43 : decode prog_17_method_7_code 43 = .ok (.iadd, 1) := by decide +kernel
theorem own_d7_44 : decode prog_17_method_7_code 44 = .ok (.iastore, 1) := by decide +kernel
theorem own_d7_45 : decode prog_17_method_7_code 45 = .ok (.iinc 3 1, 3) := by decide +kernel
theorem own_d7_48 : decode prog_17_method_7_code 48 = .ok (.goto (-29), 3) := by decide +kernel
set_option maxRecDepth 65536 in
set_option maxHeartbeats 40000000 in
theorem rm_turn {p : Program} {l : Launch} {e : Env} {R : Room} {s : State} {m : MethodId} {args : Array Value} {below : List Frame} {meth : Method} {c : Code} {T0 : State} {locs : List Loc} {cells slots : Nat} {Z : State} {a0 : Array Value} {h0 : Heap} {n0 : Nat} {RR : Outcome → State → Prop} (hx : p.tables.exec = Jvm.exec) (hw : ∀ d ∈ tables_1, d.before a0 Z = true) (hZ : Z.Warmed39 s.vm) (hby : c.code = prog_17_method_7_code) (hml : c.maxLocals = 4) (hown : s.vm.findClass "com/example/tag_weighted_rank/tagweightedrank/Postings" = some m.cls) (X0 : Stand p l e R s m args below meth c T0 locs cells slots) (e0 : T0.heap = h0) (N0 : Fr n0 locs) (a1 : Addr) (b1 : Addr) (aD : Addr) (aC : Addr) (vC : List Value) (i : Int32) (j : Int32) (j' : Int32) (c1 : Int32) (d : Int32) (cs : List Value) (ds : List Value) (O_0 : Old Z n0 h0) (S_C : Sta Z Z.heap "com/example/tag_weighted_rank/tagweightedrank/Postings" "CLASSES" "[Lcom/example/tag_weighted_rank/tagweightedrank/TagClass;" (.ref aC)) (A_C : own_Ar Z Z.heap aC (.object "com/example/tag_weighted_rank/tagweightedrank/TagClass") vC) (hC : vC.length.toInt32 = 6) (E_1 : Exa Z h0 a1 "com/example/tag_weighted_rank/tagweightedrank/Postings") (F_1 : Fld Z h0 a1 "com/example/tag_weighted_rank/tagweightedrank/Postings" "data" "[I" (.ref aD)) (A_D : own_Ar Z h0 aD .int ds) (A_b : own_Ar Z h0 b1 .int cs) (G_b : n0 ≤ b1) (hj6 : j < 6) (hj' : j + Int32.ofInt 1 = j') (hD1 : ¬ (i + j) < 0) (hD2 : ds[(i + j).toNatClampNeg]? = some (.int d)) (hC1 : ¬ j < 0) (hC2 : cs[j.toNatClampNeg]? = some (.int c1)) (k : ∀ (T' : State) (h' : Heap) (L' : List Loc), Stand p l e R s m args below meth c T' L' cells slots → T'.heap = h' → Fr n0 L' → Keep h0 h' [b1] → own_Ar Z h' b1 .int (own_nx cs j c1 d) → own_Go p.tables e below (T'.setTop (mkF m 19 #[.val (.ref a1), .val (.ref b1), .val (.int i), .val (.int j')] [])) RR) :
    own_Go p.tables e below (T0.setTop (mkF m 19 #[.val (.ref a1), .val (.ref b1), .val (.int i), .val (.int j)] [])) RR := by
  refine own_iloadN X0 hx hby own_d7_19 (pc' := 20) rfl rfl ?_
  refine own_getS X0 hx hby own_d7_20 (pc' := 23) rfl hZ hown (host := "") (Or.inl (hw _ (List.mem_of_getElem? (i := 35) rfl))) Via.refl e0 (S_C.ext (O_0).2) ?_
  intro T87 X87 e87
  refine own_len X87 hx hby own_d7_23 (pc' := 24) rfl hZ e87 (A_C.ext (O_0).2) hC ?_
  refine own_icmpNo X87 hx hby own_d7_24 (pc' := 27) rfl (tlt hj6).2.1 ?_
  refine own_aloadN X87 hx hby own_d7_27 (pc' := 28) rfl rfl rfl ?_
  refine own_getF X87 hx hby own_d7_28 (pc' := 31) rfl hZ hown (host := "") (Or.inl (hw _ (List.mem_of_getElem? (i := 26) rfl))) Via.refl e87 F_1 ?_
  intro T88 X88 e88
  refine own_iloadN X88 hx hby own_d7_31 (pc' := 32) rfl rfl ?_
  refine own_iloadN X88 hx hby own_d7_32 (pc' := 33) rfl rfl ?_
  refine own_iadd X88 hx hby own_d7_33 (pc' := 34) rfl rfl ?_
  refine own_iaload X88 hx hby own_d7_34 (pc' := 35) rfl hZ e88 (A_D) hD1 hD2 ?_
  by_cases hc35 : (0 : Int32) < d
  · skip
    refine own_ifNo X88 hx hby own_d7_35 (pc' := 38) rfl (tlt hc35).2.2.2 ?_
    refine own_aloadN X88 hx hby own_d7_38 (pc' := 39) rfl rfl rfl ?_
    refine own_iloadN X88 hx hby own_d7_39 (pc' := 40) rfl rfl ?_
    refine own_dup2 X88 hx hby own_d7_40 (pc' := 41) rfl rfl rfl ?_
    refine own_iaload X88 hx hby own_d7_41 (pc' := 42) rfl hZ e88 (A_b) hC1 hC2 ?_
    refine own_iconst X88 hx hby own_d7_42 (pc' := 43) rfl (z := (1 : Int32)) (by decide) ?_
    refine own_iadd X88 hx hby own_d7_43 (pc' := 44) rfl rfl ?_
    refine own_iastore X88 hx hby own_d7_44 (pc' := 45) rfl hZ e88 (A_b) hC1 hC2 ?_
    intro T89 h89 X89 e89 W89 A89
    have N89 := Fr.snoc X89 N0 G_b
    refine own_iinc X89 hx hby own_d7_45 (pc' := 48) rfl rfl (z := j') hj' (Ls' := #[.val (.ref a1), .val (.ref b1), .val (.int i), .val (.int j')]) rfl ?_
    refine own_goto X89 hx hby own_d7_48 (pc' := 19) (by decide) ?_
    exact k _ _ _ X89 e89 N89 ((Keep.refl h0 [b1]).wr W89 (Or.inl (List.mem_of_getElem? (i := 0) rfl))) (by rw [show own_nx cs j c1 d = _ from if_pos hc35]; exact A89)
  · skip
    refine own_ifYes X88 hx hby own_d7_35 (pc' := 45) (by decide) (flt hc35).2.2.2 ?_
    refine own_iinc X88 hx hby own_d7_45 (pc' := 48) rfl rfl (z := j') hj' (Ls' := #[.val (.ref a1), .val (.ref b1), .val (.int i), .val (.int j')]) rfl ?_
    refine own_goto X88 hx hby own_d7_48 (pc' := 19) (by decide) ?_
    exact k _ _ _ X88 e88 N0 (Keep.refl h0 [b1]) (by rw [show own_nx cs j c1 d = _ from if_neg hc35]; exact A_b)
theorem own_d7_0 : decode prog_17_method_7_code 0 = .ok (.getstatic 38, 3) := by decide +kernel
theorem own_d7_3 : decode prog_17_method_7_code 3 = .ok (.arraylength, 1) := by decide +kernel
theorem own_d7_4 : decode prog_17_method_7_code 4 = .ok (.newarray .int, 2) := by decide +kernel
theorem own_d7_6 : decode prog_17_method_7_code 6 = .ok (.astore_n 1, 1) := by decide +kernel
theorem own_d7_7 : decode prog_17_method_7_code 7 = .ok (.iconst 1, 1) := by decide +kernel
theorem own_d7_8 : decode prog_17_method_7_code 8 = .ok (.istore_n 2, 1) := by decide +kernel
theorem own_d7_9 : decode prog_17_method_7_code 9 = .ok (.iload_n 2, 1) := by decide +kernel
theorem own_d7_10 : decode prog_17_method_7_code 10 = .ok (.aload_n 0, 1) := by decide +kernel
theorem own_d7_11 : decode prog_17_method_7_code 11 = .ok (.getfield 20, 3) := by decide +kernel
theorem own_d7_14 : decode prog_17_method_7_code 14 = .ok (.if_icmp .ge 46, 3) := by decide +kernel
theorem own_d7_60 : decode prog_17_method_7_code 60 = .ok (.aload_n 1, 1) := by decide +kernel
theorem own_d7_61 : decode prog_17_method_7_code 61 = .ok (.areturn, 1) := by decide +kernel
theorem own_ef_rm_cs0 (m : MethodId) (a1 : Addr) : entryFrame m #[(.ref a1)] 4 = mkF m 0 #[.val (.ref a1), .unset, .unset, .unset] [] := by first | (simp [entryFrame, mkF, argsToLocals, Value.category]; done) | rfl
def Qrm_cs0 (Z : State) (a1 : Addr) (aD : Addr) (aC : Addr) (vC : List Value) (h0 : Heap) (n0 : Nat) (v : Option Value) (h : Heap) (L : List Loc) : Prop := ∃ b, v = some (.ref b) ∧ Fr n0 L ∧ Keep h0 h [] ∧ h0.size ≤ b ∧ own_Ar Z h b .int [(.int (0 : Int32)), (.int (0 : Int32)), (.int (0 : Int32)), (.int (0 : Int32)), (.int (0 : Int32)), (.int (0 : Int32))]
set_option maxRecDepth 65536 in
set_option maxHeartbeats 40000000 in
theorem rm_cs0 (l : Launch) (Z : State) (a0 : Array Value) (hw : ∀ d ∈ tables_1, d.before a0 Z = true) (ws : List Jvm.Cond) (a1 : Addr) (aD : Addr) (aC : Addr) (vC : List Value) (h0 : Heap) (n0 : Nat) (O_0 : Old Z n0 h0) (S_S : Sta Z Z.heap "com/example/tag_weighted_rank/tagweightedrank/Postings" "STRIDE" "I" (.int (9 : Int32))) (S_C : Sta Z Z.heap "com/example/tag_weighted_rank/tagweightedrank/Postings" "CLASSES" "[Lcom/example/tag_weighted_rank/tagweightedrank/TagClass;" (.ref aC)) (A_C : own_Ar Z Z.heap aC (.object "com/example/tag_weighted_rank/tagweightedrank/TagClass") vC) (hC : vC.length.toInt32 = 6) (E_1 : Exa Z h0 a1 "com/example/tag_weighted_rank/tagweightedrank/Postings") (F_1 : Fld Z h0 a1 "com/example/tag_weighted_rank/tagweightedrank/Postings" "data" "[I" (.ref aD)) (F_2 : Fld Z h0 a1 "com/example/tag_weighted_rank/tagweightedrank/Postings" "length" "I" (.int (0 : Int32))) (A_D : own_Ar Z h0 aD .int [(.int (0 : Int32)), (.int (0 : Int32)), (.int (0 : Int32)), (.int (0 : Int32)), (.int (0 : Int32)), (.int (0 : Int32)), (.int (0 : Int32)), (.int (0 : Int32)), (.int (0 : Int32))]) :
    own_Met l (⟨"com/example/tag_weighted_rank/tagweightedrank/Postings", "classSizes", "()[I"⟩ : MethodName) prog_17_method_7_code 4 (some (.array .int)) ws ({ frames := 0, cells := 1, slots := 6, locals := 0 } : Room) #[(.ref a1)] Z h0 (Qrm_cs0 Z a1 aD aC vC h0 n0) := by
  refine own_body own_pn7 ?_
  intro p e s m below meth c T0 X0 hx hby hml hown hnm hret hlk hZ e0
  have N0 := Fr.nil n0
  refine own_st (fun t k => castTop (own_ef_rm_cs0 m a1) k) ?_
  show own_Go p.tables e below (T0.setTop (mkF m 0 #[.val (.ref a1), .unset, .unset, .unset] [])) _
  have Z0 := own_Z0 O_0
  refine own_getS X0 hx hby own_d7_0 (pc' := 3) rfl hZ hown (host := "") (Or.inl (hw _ (List.mem_of_getElem? (i := 35) rfl))) Via.refl e0 (S_C.ext (O_0).2) ?_
  intro T90 X90 e90
  refine own_len X90 hx hby own_d7_3 (pc' := 4) rfl hZ e90 (A_C.ext (O_0).2) hC ?_
  refine own_newA X90 hx hby own_d7_4 (pc' := 6) rfl hZ (hw _ (List.mem_of_getElem? (i := 4) rfl)) e90 (by decide) (cap := 6) (by decide) (by decide) (by decide) (by decide) (vs := [(.int (0 : Int32)), (.int (0 : Int32)), (.int (0 : Int32)), (.int (0 : Int32)), (.int (0 : Int32)), (.int (0 : Int32))]) (by rfl) ?_
  intro T91 h91 b91 X91 e91 g91 E91 A91
  have l91 : n0 ≤ b91 := (Nat.le_trans Z0 (Nat.le_trans (Nat.le_refl _) (Nat.le_of_eq g91.symm)))
  refine own_astoreN X91 hx hby own_d7_6 (pc' := 7) rfl rfl (Ls' := #[.val (.ref a1), .val (.ref b91), .unset, .unset]) rfl ?_
  refine own_iconst X91 hx hby own_d7_7 (pc' := 8) rfl (z := (1 : Int32)) (by decide) ?_
  refine own_istoreN X91 hx hby own_d7_8 (pc' := 9) rfl (Ls' := #[.val (.ref a1), .val (.ref b91), .val (.int (1 : Int32)), .unset]) rfl ?_
  refine own_iloadN X91 hx hby own_d7_9 (pc' := 10) rfl rfl ?_
  refine own_aloadN X91 hx hby own_d7_10 (pc' := 11) rfl rfl rfl ?_
  refine own_getF X91 hx hby own_d7_11 (pc' := 14) rfl hZ hown (host := "") (Or.inl (hw _ (List.mem_of_getElem? (i := 28) rfl))) Via.refl e91 (F_2.ext E91) ?_
  intro T92 X92 e92
  refine own_icmpYes X92 hx hby own_d7_14 (pc' := 60) (by decide) (by decide) ?_
  refine own_aloadN X92 hx hby own_d7_60 (pc' := 61) rfl rfl rfl ?_
  exact own_retA X92 hx hret rfl rfl (hb hby own_d7_61) hlk (by decide) (by decide) ⟨b91, rfl, N0, by rw [show T92.heap = _ from e92]; exact ⟨((Keep.refl h0 []).ext E91), (Nat.le_of_eq g91.symm), A91⟩⟩
theorem own_d7_17 : decode prog_17_method_7_code 17 = .ok (.iconst 0, 1) := by decide +kernel
theorem own_d7_18 : decode prog_17_method_7_code 18 = .ok (.istore_n 3, 1) := by decide +kernel
theorem own_d7_51 : decode prog_17_method_7_code 51 = .ok (.iload_n 2, 1) := by decide +kernel
theorem own_d7_52 : decode prog_17_method_7_code 52 = .ok (.getstatic 1, 3) := by decide +kernel
theorem own_d7_55 : decode prog_17_method_7_code 55 = .ok (.iadd, 1) := by decide +kernel
theorem own_d7_56 : decode prog_17_method_7_code 56 = .ok (.istore_n 2, 1) := by decide +kernel
theorem own_d7_57 : decode prog_17_method_7_code 57 = .ok (.goto (-48), 3) := by decide +kernel
theorem own_ef_rm_cs1 (m : MethodId) (a1 : Addr) : entryFrame m #[(.ref a1)] 4 = mkF m 0 #[.val (.ref a1), .unset, .unset, .unset] [] := by first | (simp [entryFrame, mkF, argsToLocals, Value.category]; done) | rfl
def Qrm_cs1 (Z : State) (a1 : Addr) (aD : Addr) (aC : Addr) (vC : List Value) (d0 : Int32) (d1 : Int32) (d2 : Int32) (d3 : Int32) (d4 : Int32) (d5 : Int32) (d6 : Int32) (d7 : Int32) (d8 : Int32) (h0 : Heap) (n0 : Nat) (v : Option Value) (h : Heap) (L : List Loc) : Prop := ∃ b, v = some (.ref b) ∧ Fr n0 L ∧ Keep h0 h [] ∧ h0.size ≤ b ∧ own_Ar Z h b .int [(.int (own_up (0 : Int32) d1)), (.int (own_up (0 : Int32) d2)), (.int (own_up (0 : Int32) d3)), (.int (own_up (0 : Int32) d4)), (.int (own_up (0 : Int32) d5)), (.int (own_up (0 : Int32) d6))]
set_option maxRecDepth 65536 in
set_option maxHeartbeats 40000000 in
theorem rm_cs1 (l : Launch) (Z : State) (a0 : Array Value) (hw : ∀ d ∈ tables_1, d.before a0 Z = true) (ws : List Jvm.Cond) (a1 : Addr) (aD : Addr) (aC : Addr) (vC : List Value) (d0 : Int32) (d1 : Int32) (d2 : Int32) (d3 : Int32) (d4 : Int32) (d5 : Int32) (d6 : Int32) (d7 : Int32) (d8 : Int32) (h0 : Heap) (n0 : Nat) (O_0 : Old Z n0 h0) (S_S : Sta Z Z.heap "com/example/tag_weighted_rank/tagweightedrank/Postings" "STRIDE" "I" (.int (9 : Int32))) (S_C : Sta Z Z.heap "com/example/tag_weighted_rank/tagweightedrank/Postings" "CLASSES" "[Lcom/example/tag_weighted_rank/tagweightedrank/TagClass;" (.ref aC)) (A_C : own_Ar Z Z.heap aC (.object "com/example/tag_weighted_rank/tagweightedrank/TagClass") vC) (hC : vC.length.toInt32 = 6) (E_1 : Exa Z h0 a1 "com/example/tag_weighted_rank/tagweightedrank/Postings") (F_1 : Fld Z h0 a1 "com/example/tag_weighted_rank/tagweightedrank/Postings" "data" "[I" (.ref aD)) (F_2 : Fld Z h0 a1 "com/example/tag_weighted_rank/tagweightedrank/Postings" "length" "I" (.int (9 : Int32))) (A_D : own_Ar Z h0 aD .int [(.int d0), (.int d1), (.int d2), (.int d3), (.int d4), (.int d5), (.int d6), (.int d7), (.int d8)]) :
    own_Met l (⟨"com/example/tag_weighted_rank/tagweightedrank/Postings", "classSizes", "()[I"⟩ : MethodName) prog_17_method_7_code 4 (some (.array .int)) ws ({ frames := 0, cells := 1, slots := 6, locals := 0 } : Room) #[(.ref a1)] Z h0 (Qrm_cs1 Z a1 aD aC vC d0 d1 d2 d3 d4 d5 d6 d7 d8 h0 n0) := by
  refine own_body own_pn7 ?_
  intro p e s m below meth c T0 X0 hx hby hml hown hnm hret hlk hZ e0
  have N0 := Fr.nil n0
  refine own_st (fun t k => castTop (own_ef_rm_cs1 m a1) k) ?_
  show own_Go p.tables e below (T0.setTop (mkF m 0 #[.val (.ref a1), .unset, .unset, .unset] [])) _
  have Z0 := own_Z0 O_0
  refine own_getS X0 hx hby own_d7_0 (pc' := 3) rfl hZ hown (host := "") (Or.inl (hw _ (List.mem_of_getElem? (i := 35) rfl))) Via.refl e0 (S_C.ext (O_0).2) ?_
  intro T93 X93 e93
  refine own_len X93 hx hby own_d7_3 (pc' := 4) rfl hZ e93 (A_C.ext (O_0).2) hC ?_
  refine own_newA X93 hx hby own_d7_4 (pc' := 6) rfl hZ (hw _ (List.mem_of_getElem? (i := 4) rfl)) e93 (by decide) (cap := 6) (by decide) (by decide) (by decide) (by decide) (vs := [(.int (0 : Int32)), (.int (0 : Int32)), (.int (0 : Int32)), (.int (0 : Int32)), (.int (0 : Int32)), (.int (0 : Int32))]) (by rfl) ?_
  intro T94 h94 b94 X94 e94 g94 E94 A94
  have l94 : n0 ≤ b94 := (Nat.le_trans Z0 (Nat.le_trans (Nat.le_refl _) (Nat.le_of_eq g94.symm)))
  refine own_astoreN X94 hx hby own_d7_6 (pc' := 7) rfl rfl (Ls' := #[.val (.ref a1), .val (.ref b94), .unset, .unset]) rfl ?_
  refine own_iconst X94 hx hby own_d7_7 (pc' := 8) rfl (z := (1 : Int32)) (by decide) ?_
  refine own_istoreN X94 hx hby own_d7_8 (pc' := 9) rfl (Ls' := #[.val (.ref a1), .val (.ref b94), .val (.int (1 : Int32)), .unset]) rfl ?_
  refine own_iloadN X94 hx hby own_d7_9 (pc' := 10) rfl rfl ?_
  refine own_aloadN X94 hx hby own_d7_10 (pc' := 11) rfl rfl rfl ?_
  refine own_getF X94 hx hby own_d7_11 (pc' := 14) rfl hZ hown (host := "") (Or.inl (hw _ (List.mem_of_getElem? (i := 28) rfl))) Via.refl e94 (F_2.ext E94) ?_
  intro T95 X95 e95
  refine own_icmpNo X95 hx hby own_d7_14 (pc' := 17) rfl (by decide) ?_
  refine own_iconst X95 hx hby own_d7_17 (pc' := 18) rfl (z := (0 : Int32)) (by decide) ?_
  refine own_istoreN X95 hx hby own_d7_18 (pc' := 19) rfl (Ls' := #[.val (.ref a1), .val (.ref b94), .val (.int (1 : Int32)), .val (.int (0 : Int32))]) rfl ?_
  refine rm_turn hx hw hZ hby hml hown X95 e95 N0 a1 b94 aD aC vC (1 : Int32) (0 : Int32) (1 : Int32) (0 : Int32) d1 [(.int (0 : Int32)), (.int (0 : Int32)), (.int (0 : Int32)), (.int (0 : Int32)), (.int (0 : Int32)), (.int (0 : Int32))] [(.int d0), (.int d1), (.int d2), (.int d3), (.int d4), (.int d5), (.int d6), (.int d7), (.int d8)] ((O_0.ext E94)) S_C A_C hC ((E_1.ext E94)) ((F_1.ext E94)) ((A_D.ext E94)) (A94) l94 (by decide) (by decide) (by decide) rfl (by decide) rfl ?_
  intro T96 h96 L96 X96 e96 N96 K96 A96
  rw [show own_nx [(.int (0 : Int32)), (.int (0 : Int32)), (.int (0 : Int32)), (.int (0 : Int32)), (.int (0 : Int32)), (.int (0 : Int32))] (0 : Int32) (0 : Int32) d1 = [(.int (own_up (0 : Int32) d1)), (.int (0 : Int32)), (.int (0 : Int32)), (.int (0 : Int32)), (.int (0 : Int32)), (.int (0 : Int32))] from by simp only [own_nx, own_up]; split <;> rfl] at A96
  refine rm_turn hx hw hZ hby hml hown X96 e96 N96 a1 b94 aD aC vC (1 : Int32) (1 : Int32) (2 : Int32) (0 : Int32) d2 [(.int (own_up (0 : Int32) d1)), (.int (0 : Int32)), (.int (0 : Int32)), (.int (0 : Int32)), (.int (0 : Int32)), (.int (0 : Int32))] [(.int d0), (.int d1), (.int d2), (.int d3), (.int d4), (.int d5), (.int d6), (.int d7), (.int d8)] (((O_0.ext E94).keep K96 (allS l94 all0))) S_C A_C hC (((E_1.ext E94).keep K96)) (((F_1.ext E94).keep K96 (ninS (Nat.ne_of_lt (Nat.lt_of_lt_of_le (E_1).lt (Nat.le_of_eq g94.symm))) nin0))) (((A_D.ext E94).keep K96 (ninS (Nat.ne_of_lt (Nat.lt_of_lt_of_le (A_D).lt (Nat.le_of_eq g94.symm))) nin0))) (A96) l94 (by decide) (by decide) (by decide) rfl (by decide) rfl ?_
  intro T97 h97 L97 X97 e97 N97 K97 A97
  rw [show own_nx [(.int (own_up (0 : Int32) d1)), (.int (0 : Int32)), (.int (0 : Int32)), (.int (0 : Int32)), (.int (0 : Int32)), (.int (0 : Int32))] (1 : Int32) (0 : Int32) d2 = [(.int (own_up (0 : Int32) d1)), (.int (own_up (0 : Int32) d2)), (.int (0 : Int32)), (.int (0 : Int32)), (.int (0 : Int32)), (.int (0 : Int32))] from by simp only [own_nx, own_up]; split <;> rfl] at A97
  refine rm_turn hx hw hZ hby hml hown X97 e97 N97 a1 b94 aD aC vC (1 : Int32) (2 : Int32) (3 : Int32) (0 : Int32) d3 [(.int (own_up (0 : Int32) d1)), (.int (own_up (0 : Int32) d2)), (.int (0 : Int32)), (.int (0 : Int32)), (.int (0 : Int32)), (.int (0 : Int32))] [(.int d0), (.int d1), (.int d2), (.int d3), (.int d4), (.int d5), (.int d6), (.int d7), (.int d8)] ((((O_0.ext E94).keep K96 (allS l94 all0)).keep K97 (allS l94 all0))) S_C A_C hC ((((E_1.ext E94).keep K96).keep K97)) ((((F_1.ext E94).keep K96 (ninS (Nat.ne_of_lt (Nat.lt_of_lt_of_le (E_1).lt (Nat.le_of_eq g94.symm))) nin0)).keep K97 (ninS (Nat.ne_of_lt (Nat.lt_of_lt_of_le (E_1).lt (Nat.le_of_eq g94.symm))) nin0))) ((((A_D.ext E94).keep K96 (ninS (Nat.ne_of_lt (Nat.lt_of_lt_of_le (A_D).lt (Nat.le_of_eq g94.symm))) nin0)).keep K97 (ninS (Nat.ne_of_lt (Nat.lt_of_lt_of_le (A_D).lt (Nat.le_of_eq g94.symm))) nin0))) (A97) l94 (by decide) (by decide) (by decide) rfl (by decide) rfl ?_
  intro T98 h98 L98 X98 e98 N98 K98 A98
  rw [show own_nx [(.int (own_up (0 : Int32) d1)), (.int (own_up (0 : Int32) d2)), (.int (0 : Int32)), (.int (0 : Int32)), (.int (0 : Int32)), (.int (0 : Int32))] (2 : Int32) (0 : Int32) d3 = [(.int (own_up (0 : Int32) d1)), (.int (own_up (0 : Int32) d2)), (.int (own_up (0 : Int32) d3)), (.int (0 : Int32)), (.int (0 : Int32)), (.int (0 : Int32))] from by simp only [own_nx, own_up]; split <;> rfl] at A98
  refine rm_turn hx hw hZ hby hml hown X98 e98 N98 a1 b94 aD aC vC (1 : Int32) (3 : Int32) (4 : Int32) (0 : Int32) d4 [(.int (own_up (0 : Int32) d1)), (.int (own_up (0 : Int32) d2)), (.int (own_up (0 : Int32) d3)), (.int (0 : Int32)), (.int (0 : Int32)), (.int (0 : Int32))] [(.int d0), (.int d1), (.int d2), (.int d3), (.int d4), (.int d5), (.int d6), (.int d7), (.int d8)] (((((O_0.ext E94).keep K96 (allS l94 all0)).keep K97 (allS l94 all0)).keep K98 (allS l94 all0))) S_C A_C hC (((((E_1.ext E94).keep K96).keep K97).keep K98)) (((((F_1.ext E94).keep K96 (ninS (Nat.ne_of_lt (Nat.lt_of_lt_of_le (E_1).lt (Nat.le_of_eq g94.symm))) nin0)).keep K97 (ninS (Nat.ne_of_lt (Nat.lt_of_lt_of_le (E_1).lt (Nat.le_of_eq g94.symm))) nin0)).keep K98 (ninS (Nat.ne_of_lt (Nat.lt_of_lt_of_le (E_1).lt (Nat.le_of_eq g94.symm))) nin0))) (((((A_D.ext E94).keep K96 (ninS (Nat.ne_of_lt (Nat.lt_of_lt_of_le (A_D).lt (Nat.le_of_eq g94.symm))) nin0)).keep K97 (ninS (Nat.ne_of_lt (Nat.lt_of_lt_of_le (A_D).lt (Nat.le_of_eq g94.symm))) nin0)).keep K98 (ninS (Nat.ne_of_lt (Nat.lt_of_lt_of_le (A_D).lt (Nat.le_of_eq g94.symm))) nin0))) (A98) l94 (by decide) (by decide) (by decide) rfl (by decide) rfl ?_
  intro T99 h99 L99 X99 e99 N99 K99 A99
  rw [show own_nx [(.int (own_up (0 : Int32) d1)), (.int (own_up (0 : Int32) d2)), (.int (own_up (0 : Int32) d3)), (.int (0 : Int32)), (.int (0 : Int32)), (.int (0 : Int32))] (3 : Int32) (0 : Int32) d4 = [(.int (own_up (0 : Int32) d1)), (.int (own_up (0 : Int32) d2)), (.int (own_up (0 : Int32) d3)), (.int (own_up (0 : Int32) d4)), (.int (0 : Int32)), (.int (0 : Int32))] from by simp only [own_nx, own_up]; split <;> rfl] at A99
  refine rm_turn hx hw hZ hby hml hown X99 e99 N99 a1 b94 aD aC vC (1 : Int32) (4 : Int32) (5 : Int32) (0 : Int32) d5 [(.int (own_up (0 : Int32) d1)), (.int (own_up (0 : Int32) d2)), (.int (own_up (0 : Int32) d3)), (.int (own_up (0 : Int32) d4)), (.int (0 : Int32)), (.int (0 : Int32))] [(.int d0), (.int d1), (.int d2), (.int d3), (.int d4), (.int d5), (.int d6), (.int d7), (.int d8)] ((((((O_0.ext E94).keep K96 (allS l94 all0)).keep K97 (allS l94 all0)).keep K98 (allS l94 all0)).keep K99 (allS l94 all0))) S_C A_C hC ((((((E_1.ext E94).keep K96).keep K97).keep K98).keep K99)) ((((((F_1.ext E94).keep K96 (ninS (Nat.ne_of_lt (Nat.lt_of_lt_of_le (E_1).lt (Nat.le_of_eq g94.symm))) nin0)).keep K97 (ninS (Nat.ne_of_lt (Nat.lt_of_lt_of_le (E_1).lt (Nat.le_of_eq g94.symm))) nin0)).keep K98 (ninS (Nat.ne_of_lt (Nat.lt_of_lt_of_le (E_1).lt (Nat.le_of_eq g94.symm))) nin0)).keep K99 (ninS (Nat.ne_of_lt (Nat.lt_of_lt_of_le (E_1).lt (Nat.le_of_eq g94.symm))) nin0))) ((((((A_D.ext E94).keep K96 (ninS (Nat.ne_of_lt (Nat.lt_of_lt_of_le (A_D).lt (Nat.le_of_eq g94.symm))) nin0)).keep K97 (ninS (Nat.ne_of_lt (Nat.lt_of_lt_of_le (A_D).lt (Nat.le_of_eq g94.symm))) nin0)).keep K98 (ninS (Nat.ne_of_lt (Nat.lt_of_lt_of_le (A_D).lt (Nat.le_of_eq g94.symm))) nin0)).keep K99 (ninS (Nat.ne_of_lt (Nat.lt_of_lt_of_le (A_D).lt (Nat.le_of_eq g94.symm))) nin0))) (A99) l94 (by decide) (by decide) (by decide) rfl (by decide) rfl ?_
  intro T100 h100 L100 X100 e100 N100 K100 A100
  rw [show own_nx [(.int (own_up (0 : Int32) d1)), (.int (own_up (0 : Int32) d2)), (.int (own_up (0 : Int32) d3)), (.int (own_up (0 : Int32) d4)), (.int (0 : Int32)), (.int (0 : Int32))] (4 : Int32) (0 : Int32) d5 = [(.int (own_up (0 : Int32) d1)), (.int (own_up (0 : Int32) d2)), (.int (own_up (0 : Int32) d3)), (.int (own_up (0 : Int32) d4)), (.int (own_up (0 : Int32) d5)), (.int (0 : Int32))] from by simp only [own_nx, own_up]; split <;> rfl] at A100
  refine rm_turn hx hw hZ hby hml hown X100 e100 N100 a1 b94 aD aC vC (1 : Int32) (5 : Int32) (6 : Int32) (0 : Int32) d6 [(.int (own_up (0 : Int32) d1)), (.int (own_up (0 : Int32) d2)), (.int (own_up (0 : Int32) d3)), (.int (own_up (0 : Int32) d4)), (.int (own_up (0 : Int32) d5)), (.int (0 : Int32))] [(.int d0), (.int d1), (.int d2), (.int d3), (.int d4), (.int d5), (.int d6), (.int d7), (.int d8)] (((((((O_0.ext E94).keep K96 (allS l94 all0)).keep K97 (allS l94 all0)).keep K98 (allS l94 all0)).keep K99 (allS l94 all0)).keep K100 (allS l94 all0))) S_C A_C hC (((((((E_1.ext E94).keep K96).keep K97).keep K98).keep K99).keep K100)) (((((((F_1.ext E94).keep K96 (ninS (Nat.ne_of_lt (Nat.lt_of_lt_of_le (E_1).lt (Nat.le_of_eq g94.symm))) nin0)).keep K97 (ninS (Nat.ne_of_lt (Nat.lt_of_lt_of_le (E_1).lt (Nat.le_of_eq g94.symm))) nin0)).keep K98 (ninS (Nat.ne_of_lt (Nat.lt_of_lt_of_le (E_1).lt (Nat.le_of_eq g94.symm))) nin0)).keep K99 (ninS (Nat.ne_of_lt (Nat.lt_of_lt_of_le (E_1).lt (Nat.le_of_eq g94.symm))) nin0)).keep K100 (ninS (Nat.ne_of_lt (Nat.lt_of_lt_of_le (E_1).lt (Nat.le_of_eq g94.symm))) nin0))) (((((((A_D.ext E94).keep K96 (ninS (Nat.ne_of_lt (Nat.lt_of_lt_of_le (A_D).lt (Nat.le_of_eq g94.symm))) nin0)).keep K97 (ninS (Nat.ne_of_lt (Nat.lt_of_lt_of_le (A_D).lt (Nat.le_of_eq g94.symm))) nin0)).keep K98 (ninS (Nat.ne_of_lt (Nat.lt_of_lt_of_le (A_D).lt (Nat.le_of_eq g94.symm))) nin0)).keep K99 (ninS (Nat.ne_of_lt (Nat.lt_of_lt_of_le (A_D).lt (Nat.le_of_eq g94.symm))) nin0)).keep K100 (ninS (Nat.ne_of_lt (Nat.lt_of_lt_of_le (A_D).lt (Nat.le_of_eq g94.symm))) nin0))) (A100) l94 (by decide) (by decide) (by decide) rfl (by decide) rfl ?_
  intro T101 h101 L101 X101 e101 N101 K101 A101
  rw [show own_nx [(.int (own_up (0 : Int32) d1)), (.int (own_up (0 : Int32) d2)), (.int (own_up (0 : Int32) d3)), (.int (own_up (0 : Int32) d4)), (.int (own_up (0 : Int32) d5)), (.int (0 : Int32))] (5 : Int32) (0 : Int32) d6 = [(.int (own_up (0 : Int32) d1)), (.int (own_up (0 : Int32) d2)), (.int (own_up (0 : Int32) d3)), (.int (own_up (0 : Int32) d4)), (.int (own_up (0 : Int32) d5)), (.int (own_up (0 : Int32) d6))] from by simp only [own_nx, own_up]; split <;> rfl] at A101
  show own_Go p.tables e below (T101.setTop (mkF m 19 #[.val (.ref a1), .val (.ref b94), .val (.int (1 : Int32)), .val (.int (6 : Int32))] [])) _
  refine own_iloadN X101 hx hby own_d7_19 (pc' := 20) rfl rfl ?_
  refine own_getS X101 hx hby own_d7_20 (pc' := 23) rfl hZ hown (host := "") (Or.inl (hw _ (List.mem_of_getElem? (i := 35) rfl))) Via.refl e101 (S_C.ext ((((((((O_0.ext E94).keep K96 (allS l94 all0)).keep K97 (allS l94 all0)).keep K98 (allS l94 all0)).keep K99 (allS l94 all0)).keep K100 (allS l94 all0)).keep K101 (allS l94 all0))).2) ?_
  intro T102 X102 e102
  refine own_len X102 hx hby own_d7_23 (pc' := 24) rfl hZ e102 (A_C.ext ((((((((O_0.ext E94).keep K96 (allS l94 all0)).keep K97 (allS l94 all0)).keep K98 (allS l94 all0)).keep K99 (allS l94 all0)).keep K100 (allS l94 all0)).keep K101 (allS l94 all0))).2) hC ?_
  refine own_icmpYes X102 hx hby own_d7_24 (pc' := 51) (by decide) (by decide) ?_
  refine own_iloadN X102 hx hby own_d7_51 (pc' := 52) rfl rfl ?_
  refine own_getS X102 hx hby own_d7_52 (pc' := 55) rfl hZ hown (host := "") (Or.inl (hw _ (List.mem_of_getElem? (i := 18) rfl))) Via.refl e102 (S_S.ext ((((((((O_0.ext E94).keep K96 (allS l94 all0)).keep K97 (allS l94 all0)).keep K98 (allS l94 all0)).keep K99 (allS l94 all0)).keep K100 (allS l94 all0)).keep K101 (allS l94 all0))).2) ?_
  intro T103 X103 e103
  refine own_iadd X103 hx hby own_d7_55 (pc' := 56) rfl (z := (10 : Int32)) (by decide) ?_
  refine own_istoreN X103 hx hby own_d7_56 (pc' := 57) rfl (Ls' := #[.val (.ref a1), .val (.ref b94), .val (.int (10 : Int32)), .val (.int (6 : Int32))]) rfl ?_
  refine own_goto X103 hx hby own_d7_57 (pc' := 9) (by decide) ?_
  refine own_iloadN X103 hx hby own_d7_9 (pc' := 10) rfl rfl ?_
  refine own_aloadN X103 hx hby own_d7_10 (pc' := 11) rfl rfl rfl ?_
  refine own_getF X103 hx hby own_d7_11 (pc' := 14) rfl hZ hown (host := "") (Or.inl (hw _ (List.mem_of_getElem? (i := 28) rfl))) Via.refl e103 (((((((F_2.ext E94).keep K96 (ninS (Nat.ne_of_lt (Nat.lt_of_lt_of_le (E_1).lt (Nat.le_of_eq g94.symm))) nin0)).keep K97 (ninS (Nat.ne_of_lt (Nat.lt_of_lt_of_le (E_1).lt (Nat.le_of_eq g94.symm))) nin0)).keep K98 (ninS (Nat.ne_of_lt (Nat.lt_of_lt_of_le (E_1).lt (Nat.le_of_eq g94.symm))) nin0)).keep K99 (ninS (Nat.ne_of_lt (Nat.lt_of_lt_of_le (E_1).lt (Nat.le_of_eq g94.symm))) nin0)).keep K100 (ninS (Nat.ne_of_lt (Nat.lt_of_lt_of_le (E_1).lt (Nat.le_of_eq g94.symm))) nin0)).keep K101 (ninS (Nat.ne_of_lt (Nat.lt_of_lt_of_le (E_1).lt (Nat.le_of_eq g94.symm))) nin0)) ?_
  intro T104 X104 e104
  refine own_icmpYes X104 hx hby own_d7_14 (pc' := 60) (by decide) (by decide) ?_
  refine own_aloadN X104 hx hby own_d7_60 (pc' := 61) rfl rfl rfl ?_
  exact own_retA X104 hx hret rfl rfl (hb hby own_d7_61) hlk (by decide) (by decide) ⟨b94, rfl, N101, by rw [show T104.heap = _ from e104]; exact ⟨((((((((Keep.refl h0 []).ext E94).trans K96 (allS (Or.inr (Nat.le_trans (Nat.le_refl _) (Nat.le_of_eq g94.symm))) all0)).trans K97 (allS (Or.inr (Nat.le_trans (Nat.le_refl _) (Nat.le_of_eq g94.symm))) all0)).trans K98 (allS (Or.inr (Nat.le_trans (Nat.le_refl _) (Nat.le_of_eq g94.symm))) all0)).trans K99 (allS (Or.inr (Nat.le_trans (Nat.le_refl _) (Nat.le_of_eq g94.symm))) all0)).trans K100 (allS (Or.inr (Nat.le_trans (Nat.le_refl _) (Nat.le_of_eq g94.symm))) all0)).trans K101 (allS (Or.inr (Nat.le_trans (Nat.le_refl _) (Nat.le_of_eq g94.symm))) all0)), (Nat.le_of_eq g94.symm), A101⟩⟩
theorem own_ef_rm_cs2 (m : MethodId) (a1 : Addr) : entryFrame m #[(.ref a1)] 4 = mkF m 0 #[.val (.ref a1), .unset, .unset, .unset] [] := by first | (simp [entryFrame, mkF, argsToLocals, Value.category]; done) | rfl
def Qrm_cs2 (Z : State) (a1 : Addr) (aD : Addr) (aC : Addr) (vC : List Value) (d0 : Int32) (d1 : Int32) (d2 : Int32) (d3 : Int32) (d4 : Int32) (d5 : Int32) (d6 : Int32) (d7 : Int32) (d8 : Int32) (d9 : Int32) (d10 : Int32) (d11 : Int32) (d12 : Int32) (d13 : Int32) (d14 : Int32) (d15 : Int32) (d16 : Int32) (d17 : Int32) (h0 : Heap) (n0 : Nat) (v : Option Value) (h : Heap) (L : List Loc) : Prop := ∃ b, v = some (.ref b) ∧ Fr n0 L ∧ Keep h0 h [] ∧ h0.size ≤ b ∧ own_Ar Z h b .int [(.int (own_up (own_up (0 : Int32) d1) d10)), (.int (own_up (own_up (0 : Int32) d2) d11)), (.int (own_up (own_up (0 : Int32) d3) d12)), (.int (own_up (own_up (0 : Int32) d4) d13)), (.int (own_up (own_up (0 : Int32) d5) d14)), (.int (own_up (own_up (0 : Int32) d6) d15))]
set_option maxRecDepth 65536 in
set_option maxHeartbeats 40000000 in
theorem rm_cs2 (l : Launch) (Z : State) (a0 : Array Value) (hw : ∀ d ∈ tables_1, d.before a0 Z = true) (ws : List Jvm.Cond) (a1 : Addr) (aD : Addr) (aC : Addr) (vC : List Value) (d0 : Int32) (d1 : Int32) (d2 : Int32) (d3 : Int32) (d4 : Int32) (d5 : Int32) (d6 : Int32) (d7 : Int32) (d8 : Int32) (d9 : Int32) (d10 : Int32) (d11 : Int32) (d12 : Int32) (d13 : Int32) (d14 : Int32) (d15 : Int32) (d16 : Int32) (d17 : Int32) (h0 : Heap) (n0 : Nat) (O_0 : Old Z n0 h0) (S_S : Sta Z Z.heap "com/example/tag_weighted_rank/tagweightedrank/Postings" "STRIDE" "I" (.int (9 : Int32))) (S_C : Sta Z Z.heap "com/example/tag_weighted_rank/tagweightedrank/Postings" "CLASSES" "[Lcom/example/tag_weighted_rank/tagweightedrank/TagClass;" (.ref aC)) (A_C : own_Ar Z Z.heap aC (.object "com/example/tag_weighted_rank/tagweightedrank/TagClass") vC) (hC : vC.length.toInt32 = 6) (E_1 : Exa Z h0 a1 "com/example/tag_weighted_rank/tagweightedrank/Postings") (F_1 : Fld Z h0 a1 "com/example/tag_weighted_rank/tagweightedrank/Postings" "data" "[I" (.ref aD)) (F_2 : Fld Z h0 a1 "com/example/tag_weighted_rank/tagweightedrank/Postings" "length" "I" (.int (18 : Int32))) (A_D : own_Ar Z h0 aD .int [(.int d0), (.int d1), (.int d2), (.int d3), (.int d4), (.int d5), (.int d6), (.int d7), (.int d8), (.int d9), (.int d10), (.int d11), (.int d12), (.int d13), (.int d14), (.int d15), (.int d16), (.int d17)]) :
    own_Met l (⟨"com/example/tag_weighted_rank/tagweightedrank/Postings", "classSizes", "()[I"⟩ : MethodName) prog_17_method_7_code 4 (some (.array .int)) ws ({ frames := 0, cells := 1, slots := 6, locals := 0 } : Room) #[(.ref a1)] Z h0 (Qrm_cs2 Z a1 aD aC vC d0 d1 d2 d3 d4 d5 d6 d7 d8 d9 d10 d11 d12 d13 d14 d15 d16 d17 h0 n0) := by
  refine own_body own_pn7 ?_
  intro p e s m below meth c T0 X0 hx hby hml hown hnm hret hlk hZ e0
  have N0 := Fr.nil n0
  refine own_st (fun t k => castTop (own_ef_rm_cs2 m a1) k) ?_
  show own_Go p.tables e below (T0.setTop (mkF m 0 #[.val (.ref a1), .unset, .unset, .unset] [])) _
  have Z0 := own_Z0 O_0
  refine own_getS X0 hx hby own_d7_0 (pc' := 3) rfl hZ hown (host := "") (Or.inl (hw _ (List.mem_of_getElem? (i := 35) rfl))) Via.refl e0 (S_C.ext (O_0).2) ?_
  intro T105 X105 e105
  refine own_len X105 hx hby own_d7_3 (pc' := 4) rfl hZ e105 (A_C.ext (O_0).2) hC ?_
  refine own_newA X105 hx hby own_d7_4 (pc' := 6) rfl hZ (hw _ (List.mem_of_getElem? (i := 4) rfl)) e105 (by decide) (cap := 6) (by decide) (by decide) (by decide) (by decide) (vs := [(.int (0 : Int32)), (.int (0 : Int32)), (.int (0 : Int32)), (.int (0 : Int32)), (.int (0 : Int32)), (.int (0 : Int32))]) (by rfl) ?_
  intro T106 h106 b106 X106 e106 g106 E106 A106
  have l106 : n0 ≤ b106 := (Nat.le_trans Z0 (Nat.le_trans (Nat.le_refl _) (Nat.le_of_eq g106.symm)))
  refine own_astoreN X106 hx hby own_d7_6 (pc' := 7) rfl rfl (Ls' := #[.val (.ref a1), .val (.ref b106), .unset, .unset]) rfl ?_
  refine own_iconst X106 hx hby own_d7_7 (pc' := 8) rfl (z := (1 : Int32)) (by decide) ?_
  refine own_istoreN X106 hx hby own_d7_8 (pc' := 9) rfl (Ls' := #[.val (.ref a1), .val (.ref b106), .val (.int (1 : Int32)), .unset]) rfl ?_
  refine own_iloadN X106 hx hby own_d7_9 (pc' := 10) rfl rfl ?_
  refine own_aloadN X106 hx hby own_d7_10 (pc' := 11) rfl rfl rfl ?_
  refine own_getF X106 hx hby own_d7_11 (pc' := 14) rfl hZ hown (host := "") (Or.inl (hw _ (List.mem_of_getElem? (i := 28) rfl))) Via.refl e106 (F_2.ext E106) ?_
  intro T107 X107 e107
  refine own_icmpNo X107 hx hby own_d7_14 (pc' := 17) rfl (by decide) ?_
  refine own_iconst X107 hx hby own_d7_17 (pc' := 18) rfl (z := (0 : Int32)) (by decide) ?_
  refine own_istoreN X107 hx hby own_d7_18 (pc' := 19) rfl (Ls' := #[.val (.ref a1), .val (.ref b106), .val (.int (1 : Int32)), .val (.int (0 : Int32))]) rfl ?_
  refine rm_turn hx hw hZ hby hml hown X107 e107 N0 a1 b106 aD aC vC (1 : Int32) (0 : Int32) (1 : Int32) (0 : Int32) d1 [(.int (0 : Int32)), (.int (0 : Int32)), (.int (0 : Int32)), (.int (0 : Int32)), (.int (0 : Int32)), (.int (0 : Int32))] [(.int d0), (.int d1), (.int d2), (.int d3), (.int d4), (.int d5), (.int d6), (.int d7), (.int d8), (.int d9), (.int d10), (.int d11), (.int d12), (.int d13), (.int d14), (.int d15), (.int d16), (.int d17)] ((O_0.ext E106)) S_C A_C hC ((E_1.ext E106)) ((F_1.ext E106)) ((A_D.ext E106)) (A106) l106 (by decide) (by decide) (by decide) rfl (by decide) rfl ?_
  intro T108 h108 L108 X108 e108 N108 K108 A108
  rw [show own_nx [(.int (0 : Int32)), (.int (0 : Int32)), (.int (0 : Int32)), (.int (0 : Int32)), (.int (0 : Int32)), (.int (0 : Int32))] (0 : Int32) (0 : Int32) d1 = [(.int (own_up (0 : Int32) d1)), (.int (0 : Int32)), (.int (0 : Int32)), (.int (0 : Int32)), (.int (0 : Int32)), (.int (0 : Int32))] from by simp only [own_nx, own_up]; split <;> rfl] at A108
  refine rm_turn hx hw hZ hby hml hown X108 e108 N108 a1 b106 aD aC vC (1 : Int32) (1 : Int32) (2 : Int32) (0 : Int32) d2 [(.int (own_up (0 : Int32) d1)), (.int (0 : Int32)), (.int (0 : Int32)), (.int (0 : Int32)), (.int (0 : Int32)), (.int (0 : Int32))] [(.int d0), (.int d1), (.int d2), (.int d3), (.int d4), (.int d5), (.int d6), (.int d7), (.int d8), (.int d9), (.int d10), (.int d11), (.int d12), (.int d13), (.int d14), (.int d15), (.int d16), (.int d17)] (((O_0.ext E106).keep K108 (allS l106 all0))) S_C A_C hC (((E_1.ext E106).keep K108)) (((F_1.ext E106).keep K108 (ninS (Nat.ne_of_lt (Nat.lt_of_lt_of_le (E_1).lt (Nat.le_of_eq g106.symm))) nin0))) (((A_D.ext E106).keep K108 (ninS (Nat.ne_of_lt (Nat.lt_of_lt_of_le (A_D).lt (Nat.le_of_eq g106.symm))) nin0))) (A108) l106 (by decide) (by decide) (by decide) rfl (by decide) rfl ?_
  intro T109 h109 L109 X109 e109 N109 K109 A109
  rw [show own_nx [(.int (own_up (0 : Int32) d1)), (.int (0 : Int32)), (.int (0 : Int32)), (.int (0 : Int32)), (.int (0 : Int32)), (.int (0 : Int32))] (1 : Int32) (0 : Int32) d2 = [(.int (own_up (0 : Int32) d1)), (.int (own_up (0 : Int32) d2)), (.int (0 : Int32)), (.int (0 : Int32)), (.int (0 : Int32)), (.int (0 : Int32))] from by simp only [own_nx, own_up]; split <;> rfl] at A109
  refine rm_turn hx hw hZ hby hml hown X109 e109 N109 a1 b106 aD aC vC (1 : Int32) (2 : Int32) (3 : Int32) (0 : Int32) d3 [(.int (own_up (0 : Int32) d1)), (.int (own_up (0 : Int32) d2)), (.int (0 : Int32)), (.int (0 : Int32)), (.int (0 : Int32)), (.int (0 : Int32))] [(.int d0), (.int d1), (.int d2), (.int d3), (.int d4), (.int d5), (.int d6), (.int d7), (.int d8), (.int d9), (.int d10), (.int d11), (.int d12), (.int d13), (.int d14), (.int d15), (.int d16), (.int d17)] ((((O_0.ext E106).keep K108 (allS l106 all0)).keep K109 (allS l106 all0))) S_C A_C hC ((((E_1.ext E106).keep K108).keep K109)) ((((F_1.ext E106).keep K108 (ninS (Nat.ne_of_lt (Nat.lt_of_lt_of_le (E_1).lt (Nat.le_of_eq g106.symm))) nin0)).keep K109 (ninS (Nat.ne_of_lt (Nat.lt_of_lt_of_le (E_1).lt (Nat.le_of_eq g106.symm))) nin0))) ((((A_D.ext E106).keep K108 (ninS (Nat.ne_of_lt (Nat.lt_of_lt_of_le (A_D).lt (Nat.le_of_eq g106.symm))) nin0)).keep K109 (ninS (Nat.ne_of_lt (Nat.lt_of_lt_of_le (A_D).lt (Nat.le_of_eq g106.symm))) nin0))) (A109) l106 (by decide) (by decide) (by decide) rfl (by decide) rfl ?_
  intro T110 h110 L110 X110 e110 N110 K110 A110
  rw [show own_nx [(.int (own_up (0 : Int32) d1)), (.int (own_up (0 : Int32) d2)), (.int (0 : Int32)), (.int (0 : Int32)), (.int (0 : Int32)), (.int (0 : Int32))] (2 : Int32) (0 : Int32) d3 = [(.int (own_up (0 : Int32) d1)), (.int (own_up (0 : Int32) d2)), (.int (own_up (0 : Int32) d3)), (.int (0 : Int32)), (.int (0 : Int32)), (.int (0 : Int32))] from by simp only [own_nx, own_up]; split <;> rfl] at A110
  refine rm_turn hx hw hZ hby hml hown X110 e110 N110 a1 b106 aD aC vC (1 : Int32) (3 : Int32) (4 : Int32) (0 : Int32) d4 [(.int (own_up (0 : Int32) d1)), (.int (own_up (0 : Int32) d2)), (.int (own_up (0 : Int32) d3)), (.int (0 : Int32)), (.int (0 : Int32)), (.int (0 : Int32))] [(.int d0), (.int d1), (.int d2), (.int d3), (.int d4), (.int d5), (.int d6), (.int d7), (.int d8), (.int d9), (.int d10), (.int d11), (.int d12), (.int d13), (.int d14), (.int d15), (.int d16), (.int d17)] (((((O_0.ext E106).keep K108 (allS l106 all0)).keep K109 (allS l106 all0)).keep K110 (allS l106 all0))) S_C A_C hC (((((E_1.ext E106).keep K108).keep K109).keep K110)) (((((F_1.ext E106).keep K108 (ninS (Nat.ne_of_lt (Nat.lt_of_lt_of_le (E_1).lt (Nat.le_of_eq g106.symm))) nin0)).keep K109 (ninS (Nat.ne_of_lt (Nat.lt_of_lt_of_le (E_1).lt (Nat.le_of_eq g106.symm))) nin0)).keep K110 (ninS (Nat.ne_of_lt (Nat.lt_of_lt_of_le (E_1).lt (Nat.le_of_eq g106.symm))) nin0))) (((((A_D.ext E106).keep K108 (ninS (Nat.ne_of_lt (Nat.lt_of_lt_of_le (A_D).lt (Nat.le_of_eq g106.symm))) nin0)).keep K109 (ninS (Nat.ne_of_lt (Nat.lt_of_lt_of_le (A_D).lt (Nat.le_of_eq g106.symm))) nin0)).keep K110 (ninS (Nat.ne_of_lt (Nat.lt_of_lt_of_le (A_D).lt (Nat.le_of_eq g106.symm))) nin0))) (A110) l106 (by decide) (by decide) (by decide) rfl (by decide) rfl ?_
  intro T111 h111 L111 X111 e111 N111 K111 A111
  rw [show own_nx [(.int (own_up (0 : Int32) d1)), (.int (own_up (0 : Int32) d2)), (.int (own_up (0 : Int32) d3)), (.int (0 : Int32)), (.int (0 : Int32)), (.int (0 : Int32))] (3 : Int32) (0 : Int32) d4 = [(.int (own_up (0 : Int32) d1)), (.int (own_up (0 : Int32) d2)), (.int (own_up (0 : Int32) d3)), (.int (own_up (0 : Int32) d4)), (.int (0 : Int32)), (.int (0 : Int32))] from by simp only [own_nx, own_up]; split <;> rfl] at A111
  refine rm_turn hx hw hZ hby hml hown X111 e111 N111 a1 b106 aD aC vC (1 : Int32) (4 : Int32) (5 : Int32) (0 : Int32) d5 [(.int (own_up (0 : Int32) d1)), (.int (own_up (0 : Int32) d2)), (.int (own_up (0 : Int32) d3)), (.int (own_up (0 : Int32) d4)), (.int (0 : Int32)), (.int (0 : Int32))] [(.int d0), (.int d1), (.int d2), (.int d3), (.int d4), (.int d5), (.int d6), (.int d7), (.int d8), (.int d9), (.int d10), (.int d11), (.int d12), (.int d13), (.int d14), (.int d15), (.int d16), (.int d17)] ((((((O_0.ext E106).keep K108 (allS l106 all0)).keep K109 (allS l106 all0)).keep K110 (allS l106 all0)).keep K111 (allS l106 all0))) S_C A_C hC ((((((E_1.ext E106).keep K108).keep K109).keep K110).keep K111)) ((((((F_1.ext E106).keep K108 (ninS (Nat.ne_of_lt (Nat.lt_of_lt_of_le (E_1).lt (Nat.le_of_eq g106.symm))) nin0)).keep K109 (ninS (Nat.ne_of_lt (Nat.lt_of_lt_of_le (E_1).lt (Nat.le_of_eq g106.symm))) nin0)).keep K110 (ninS (Nat.ne_of_lt (Nat.lt_of_lt_of_le (E_1).lt (Nat.le_of_eq g106.symm))) nin0)).keep K111 (ninS (Nat.ne_of_lt (Nat.lt_of_lt_of_le (E_1).lt (Nat.le_of_eq g106.symm))) nin0))) ((((((A_D.ext E106).keep K108 (ninS (Nat.ne_of_lt (Nat.lt_of_lt_of_le (A_D).lt (Nat.le_of_eq g106.symm))) nin0)).keep K109 (ninS (Nat.ne_of_lt (Nat.lt_of_lt_of_le (A_D).lt (Nat.le_of_eq g106.symm))) nin0)).keep K110 (ninS (Nat.ne_of_lt (Nat.lt_of_lt_of_le (A_D).lt (Nat.le_of_eq g106.symm))) nin0)).keep K111 (ninS (Nat.ne_of_lt (Nat.lt_of_lt_of_le (A_D).lt (Nat.le_of_eq g106.symm))) nin0))) (A111) l106 (by decide) (by decide) (by decide) rfl (by decide) rfl ?_
  intro T112 h112 L112 X112 e112 N112 K112 A112
  rw [show own_nx [(.int (own_up (0 : Int32) d1)), (.int (own_up (0 : Int32) d2)), (.int (own_up (0 : Int32) d3)), (.int (own_up (0 : Int32) d4)), (.int (0 : Int32)), (.int (0 : Int32))] (4 : Int32) (0 : Int32) d5 = [(.int (own_up (0 : Int32) d1)), (.int (own_up (0 : Int32) d2)), (.int (own_up (0 : Int32) d3)), (.int (own_up (0 : Int32) d4)), (.int (own_up (0 : Int32) d5)), (.int (0 : Int32))] from by simp only [own_nx, own_up]; split <;> rfl] at A112
  refine rm_turn hx hw hZ hby hml hown X112 e112 N112 a1 b106 aD aC vC (1 : Int32) (5 : Int32) (6 : Int32) (0 : Int32) d6 [(.int (own_up (0 : Int32) d1)), (.int (own_up (0 : Int32) d2)), (.int (own_up (0 : Int32) d3)), (.int (own_up (0 : Int32) d4)), (.int (own_up (0 : Int32) d5)), (.int (0 : Int32))] [(.int d0), (.int d1), (.int d2), (.int d3), (.int d4), (.int d5), (.int d6), (.int d7), (.int d8), (.int d9), (.int d10), (.int d11), (.int d12), (.int d13), (.int d14), (.int d15), (.int d16), (.int d17)] (((((((O_0.ext E106).keep K108 (allS l106 all0)).keep K109 (allS l106 all0)).keep K110 (allS l106 all0)).keep K111 (allS l106 all0)).keep K112 (allS l106 all0))) S_C A_C hC (((((((E_1.ext E106).keep K108).keep K109).keep K110).keep K111).keep K112)) (((((((F_1.ext E106).keep K108 (ninS (Nat.ne_of_lt (Nat.lt_of_lt_of_le (E_1).lt (Nat.le_of_eq g106.symm))) nin0)).keep K109 (ninS (Nat.ne_of_lt (Nat.lt_of_lt_of_le (E_1).lt (Nat.le_of_eq g106.symm))) nin0)).keep K110 (ninS (Nat.ne_of_lt (Nat.lt_of_lt_of_le (E_1).lt (Nat.le_of_eq g106.symm))) nin0)).keep K111 (ninS (Nat.ne_of_lt (Nat.lt_of_lt_of_le (E_1).lt (Nat.le_of_eq g106.symm))) nin0)).keep K112 (ninS (Nat.ne_of_lt (Nat.lt_of_lt_of_le (E_1).lt (Nat.le_of_eq g106.symm))) nin0))) (((((((A_D.ext E106).keep K108 (ninS (Nat.ne_of_lt (Nat.lt_of_lt_of_le (A_D).lt (Nat.le_of_eq g106.symm))) nin0)).keep K109 (ninS (Nat.ne_of_lt (Nat.lt_of_lt_of_le (A_D).lt (Nat.le_of_eq g106.symm))) nin0)).keep K110 (ninS (Nat.ne_of_lt (Nat.lt_of_lt_of_le (A_D).lt (Nat.le_of_eq g106.symm))) nin0)).keep K111 (ninS (Nat.ne_of_lt (Nat.lt_of_lt_of_le (A_D).lt (Nat.le_of_eq g106.symm))) nin0)).keep K112 (ninS (Nat.ne_of_lt (Nat.lt_of_lt_of_le (A_D).lt (Nat.le_of_eq g106.symm))) nin0))) (A112) l106 (by decide) (by decide) (by decide) rfl (by decide) rfl ?_
  intro T113 h113 L113 X113 e113 N113 K113 A113
  rw [show own_nx [(.int (own_up (0 : Int32) d1)), (.int (own_up (0 : Int32) d2)), (.int (own_up (0 : Int32) d3)), (.int (own_up (0 : Int32) d4)), (.int (own_up (0 : Int32) d5)), (.int (0 : Int32))] (5 : Int32) (0 : Int32) d6 = [(.int (own_up (0 : Int32) d1)), (.int (own_up (0 : Int32) d2)), (.int (own_up (0 : Int32) d3)), (.int (own_up (0 : Int32) d4)), (.int (own_up (0 : Int32) d5)), (.int (own_up (0 : Int32) d6))] from by simp only [own_nx, own_up]; split <;> rfl] at A113
  show own_Go p.tables e below (T113.setTop (mkF m 19 #[.val (.ref a1), .val (.ref b106), .val (.int (1 : Int32)), .val (.int (6 : Int32))] [])) _
  refine own_iloadN X113 hx hby own_d7_19 (pc' := 20) rfl rfl ?_
  refine own_getS X113 hx hby own_d7_20 (pc' := 23) rfl hZ hown (host := "") (Or.inl (hw _ (List.mem_of_getElem? (i := 35) rfl))) Via.refl e113 (S_C.ext ((((((((O_0.ext E106).keep K108 (allS l106 all0)).keep K109 (allS l106 all0)).keep K110 (allS l106 all0)).keep K111 (allS l106 all0)).keep K112 (allS l106 all0)).keep K113 (allS l106 all0))).2) ?_
  intro T114 X114 e114
  refine own_len X114 hx hby own_d7_23 (pc' := 24) rfl hZ e114 (A_C.ext ((((((((O_0.ext E106).keep K108 (allS l106 all0)).keep K109 (allS l106 all0)).keep K110 (allS l106 all0)).keep K111 (allS l106 all0)).keep K112 (allS l106 all0)).keep K113 (allS l106 all0))).2) hC ?_
  refine own_icmpYes X114 hx hby own_d7_24 (pc' := 51) (by decide) (by decide) ?_
  refine own_iloadN X114 hx hby own_d7_51 (pc' := 52) rfl rfl ?_
  refine own_getS X114 hx hby own_d7_52 (pc' := 55) rfl hZ hown (host := "") (Or.inl (hw _ (List.mem_of_getElem? (i := 18) rfl))) Via.refl e114 (S_S.ext ((((((((O_0.ext E106).keep K108 (allS l106 all0)).keep K109 (allS l106 all0)).keep K110 (allS l106 all0)).keep K111 (allS l106 all0)).keep K112 (allS l106 all0)).keep K113 (allS l106 all0))).2) ?_
  intro T115 X115 e115
  refine own_iadd X115 hx hby own_d7_55 (pc' := 56) rfl (z := (10 : Int32)) (by decide) ?_
  refine own_istoreN X115 hx hby own_d7_56 (pc' := 57) rfl (Ls' := #[.val (.ref a1), .val (.ref b106), .val (.int (10 : Int32)), .val (.int (6 : Int32))]) rfl ?_
  refine own_goto X115 hx hby own_d7_57 (pc' := 9) (by decide) ?_
  refine own_iloadN X115 hx hby own_d7_9 (pc' := 10) rfl rfl ?_
  refine own_aloadN X115 hx hby own_d7_10 (pc' := 11) rfl rfl rfl ?_
  refine own_getF X115 hx hby own_d7_11 (pc' := 14) rfl hZ hown (host := "") (Or.inl (hw _ (List.mem_of_getElem? (i := 28) rfl))) Via.refl e115 (((((((F_2.ext E106).keep K108 (ninS (Nat.ne_of_lt (Nat.lt_of_lt_of_le (E_1).lt (Nat.le_of_eq g106.symm))) nin0)).keep K109 (ninS (Nat.ne_of_lt (Nat.lt_of_lt_of_le (E_1).lt (Nat.le_of_eq g106.symm))) nin0)).keep K110 (ninS (Nat.ne_of_lt (Nat.lt_of_lt_of_le (E_1).lt (Nat.le_of_eq g106.symm))) nin0)).keep K111 (ninS (Nat.ne_of_lt (Nat.lt_of_lt_of_le (E_1).lt (Nat.le_of_eq g106.symm))) nin0)).keep K112 (ninS (Nat.ne_of_lt (Nat.lt_of_lt_of_le (E_1).lt (Nat.le_of_eq g106.symm))) nin0)).keep K113 (ninS (Nat.ne_of_lt (Nat.lt_of_lt_of_le (E_1).lt (Nat.le_of_eq g106.symm))) nin0)) ?_
  intro T116 X116 e116
  refine own_icmpNo X116 hx hby own_d7_14 (pc' := 17) rfl (by decide) ?_
  refine own_iconst X116 hx hby own_d7_17 (pc' := 18) rfl (z := (0 : Int32)) (by decide) ?_
  refine own_istoreN X116 hx hby own_d7_18 (pc' := 19) rfl (Ls' := #[.val (.ref a1), .val (.ref b106), .val (.int (10 : Int32)), .val (.int (0 : Int32))]) rfl ?_
  refine rm_turn hx hw hZ hby hml hown X116 e116 N113 a1 b106 aD aC vC (10 : Int32) (0 : Int32) (1 : Int32) (own_up (0 : Int32) d1) d10 [(.int (own_up (0 : Int32) d1)), (.int (own_up (0 : Int32) d2)), (.int (own_up (0 : Int32) d3)), (.int (own_up (0 : Int32) d4)), (.int (own_up (0 : Int32) d5)), (.int (own_up (0 : Int32) d6))] [(.int d0), (.int d1), (.int d2), (.int d3), (.int d4), (.int d5), (.int d6), (.int d7), (.int d8), (.int d9), (.int d10), (.int d11), (.int d12), (.int d13), (.int d14), (.int d15), (.int d16), (.int d17)] ((((((((O_0.ext E106).keep K108 (allS l106 all0)).keep K109 (allS l106 all0)).keep K110 (allS l106 all0)).keep K111 (allS l106 all0)).keep K112 (allS l106 all0)).keep K113 (allS l106 all0))) S_C A_C hC ((((((((E_1.ext E106).keep K108).keep K109).keep K110).keep K111).keep K112).keep K113)) ((((((((F_1.ext E106).keep K108 (ninS (Nat.ne_of_lt (Nat.lt_of_lt_of_le (E_1).lt (Nat.le_of_eq g106.symm))) nin0)).keep K109 (ninS (Nat.ne_of_lt (Nat.lt_of_lt_of_le (E_1).lt (Nat.le_of_eq g106.symm))) nin0)).keep K110 (ninS (Nat.ne_of_lt (Nat.lt_of_lt_of_le (E_1).lt (Nat.le_of_eq g106.symm))) nin0)).keep K111 (ninS (Nat.ne_of_lt (Nat.lt_of_lt_of_le (E_1).lt (Nat.le_of_eq g106.symm))) nin0)).keep K112 (ninS (Nat.ne_of_lt (Nat.lt_of_lt_of_le (E_1).lt (Nat.le_of_eq g106.symm))) nin0)).keep K113 (ninS (Nat.ne_of_lt (Nat.lt_of_lt_of_le (E_1).lt (Nat.le_of_eq g106.symm))) nin0))) ((((((((A_D.ext E106).keep K108 (ninS (Nat.ne_of_lt (Nat.lt_of_lt_of_le (A_D).lt (Nat.le_of_eq g106.symm))) nin0)).keep K109 (ninS (Nat.ne_of_lt (Nat.lt_of_lt_of_le (A_D).lt (Nat.le_of_eq g106.symm))) nin0)).keep K110 (ninS (Nat.ne_of_lt (Nat.lt_of_lt_of_le (A_D).lt (Nat.le_of_eq g106.symm))) nin0)).keep K111 (ninS (Nat.ne_of_lt (Nat.lt_of_lt_of_le (A_D).lt (Nat.le_of_eq g106.symm))) nin0)).keep K112 (ninS (Nat.ne_of_lt (Nat.lt_of_lt_of_le (A_D).lt (Nat.le_of_eq g106.symm))) nin0)).keep K113 (ninS (Nat.ne_of_lt (Nat.lt_of_lt_of_le (A_D).lt (Nat.le_of_eq g106.symm))) nin0))) (A113) l106 (by decide) (by decide) (by decide) rfl (by decide) rfl ?_
  intro T117 h117 L117 X117 e117 N117 K117 A117
  rw [show own_nx [(.int (own_up (0 : Int32) d1)), (.int (own_up (0 : Int32) d2)), (.int (own_up (0 : Int32) d3)), (.int (own_up (0 : Int32) d4)), (.int (own_up (0 : Int32) d5)), (.int (own_up (0 : Int32) d6))] (0 : Int32) (own_up (0 : Int32) d1) d10 = [(.int (own_up (own_up (0 : Int32) d1) d10)), (.int (own_up (0 : Int32) d2)), (.int (own_up (0 : Int32) d3)), (.int (own_up (0 : Int32) d4)), (.int (own_up (0 : Int32) d5)), (.int (own_up (0 : Int32) d6))] from by simp only [own_nx, own_up]; split <;> rfl] at A117
  refine rm_turn hx hw hZ hby hml hown X117 e117 N117 a1 b106 aD aC vC (10 : Int32) (1 : Int32) (2 : Int32) (own_up (0 : Int32) d2) d11 [(.int (own_up (own_up (0 : Int32) d1) d10)), (.int (own_up (0 : Int32) d2)), (.int (own_up (0 : Int32) d3)), (.int (own_up (0 : Int32) d4)), (.int (own_up (0 : Int32) d5)), (.int (own_up (0 : Int32) d6))] [(.int d0), (.int d1), (.int d2), (.int d3), (.int d4), (.int d5), (.int d6), (.int d7), (.int d8), (.int d9), (.int d10), (.int d11), (.int d12), (.int d13), (.int d14), (.int d15), (.int d16), (.int d17)] (((((((((O_0.ext E106).keep K108 (allS l106 all0)).keep K109 (allS l106 all0)).keep K110 (allS l106 all0)).keep K111 (allS l106 all0)).keep K112 (allS l106 all0)).keep K113 (allS l106 all0)).keep K117 (allS l106 all0))) S_C A_C hC (((((((((E_1.ext E106).keep K108).keep K109).keep K110).keep K111).keep K112).keep K113).keep K117)) (((((((((F_1.ext E106).keep K108 (ninS (Nat.ne_of_lt (Nat.lt_of_lt_of_le (E_1).lt (Nat.le_of_eq g106.symm))) nin0)).keep K109 (ninS (Nat.ne_of_lt (Nat.lt_of_lt_of_le (E_1).lt (Nat.le_of_eq g106.symm))) nin0)).keep K110 (ninS (Nat.ne_of_lt (Nat.lt_of_lt_of_le (E_1).lt (Nat.le_of_eq g106.symm))) nin0)).keep K111 (ninS (Nat.ne_of_lt (Nat.lt_of_lt_of_le (E_1).lt (Nat.le_of_eq g106.symm))) nin0)).keep K112 (ninS (Nat.ne_of_lt (Nat.lt_of_lt_of_le (E_1).lt (Nat.le_of_eq g106.symm))) nin0)).keep K113 (ninS (Nat.ne_of_lt (Nat.lt_of_lt_of_le (E_1).lt (Nat.le_of_eq g106.symm))) nin0)).keep K117 (ninS (Nat.ne_of_lt (Nat.lt_of_lt_of_le (E_1).lt (Nat.le_of_eq g106.symm))) nin0))) (((((((((A_D.ext E106).keep K108 (ninS (Nat.ne_of_lt (Nat.lt_of_lt_of_le (A_D).lt (Nat.le_of_eq g106.symm))) nin0)).keep K109 (ninS (Nat.ne_of_lt (Nat.lt_of_lt_of_le (A_D).lt (Nat.le_of_eq g106.symm))) nin0)).keep K110 (ninS (Nat.ne_of_lt (Nat.lt_of_lt_of_le (A_D).lt (Nat.le_of_eq g106.symm))) nin0)).keep K111 (ninS (Nat.ne_of_lt (Nat.lt_of_lt_of_le (A_D).lt (Nat.le_of_eq g106.symm))) nin0)).keep K112 (ninS (Nat.ne_of_lt (Nat.lt_of_lt_of_le (A_D).lt (Nat.le_of_eq g106.symm))) nin0)).keep K113 (ninS (Nat.ne_of_lt (Nat.lt_of_lt_of_le (A_D).lt (Nat.le_of_eq g106.symm))) nin0)).keep K117 (ninS (Nat.ne_of_lt (Nat.lt_of_lt_of_le (A_D).lt (Nat.le_of_eq g106.symm))) nin0))) (A117) l106 (by decide) (by decide) (by decide) rfl (by decide) rfl ?_
  intro T118 h118 L118 X118 e118 N118 K118 A118
  rw [show own_nx [(.int (own_up (own_up (0 : Int32) d1) d10)), (.int (own_up (0 : Int32) d2)), (.int (own_up (0 : Int32) d3)), (.int (own_up (0 : Int32) d4)), (.int (own_up (0 : Int32) d5)), (.int (own_up (0 : Int32) d6))] (1 : Int32) (own_up (0 : Int32) d2) d11 = [(.int (own_up (own_up (0 : Int32) d1) d10)), (.int (own_up (own_up (0 : Int32) d2) d11)), (.int (own_up (0 : Int32) d3)), (.int (own_up (0 : Int32) d4)), (.int (own_up (0 : Int32) d5)), (.int (own_up (0 : Int32) d6))] from by simp only [own_nx, own_up]; split <;> rfl] at A118
  refine rm_turn hx hw hZ hby hml hown X118 e118 N118 a1 b106 aD aC vC (10 : Int32) (2 : Int32) (3 : Int32) (own_up (0 : Int32) d3) d12 [(.int (own_up (own_up (0 : Int32) d1) d10)), (.int (own_up (own_up (0 : Int32) d2) d11)), (.int (own_up (0 : Int32) d3)), (.int (own_up (0 : Int32) d4)), (.int (own_up (0 : Int32) d5)), (.int (own_up (0 : Int32) d6))] [(.int d0), (.int d1), (.int d2), (.int d3), (.int d4), (.int d5), (.int d6), (.int d7), (.int d8), (.int d9), (.int d10), (.int d11), (.int d12), (.int d13), (.int d14), (.int d15), (.int d16), (.int d17)] ((((((((((O_0.ext E106).keep K108 (allS l106 all0)).keep K109 (allS l106 all0)).keep K110 (allS l106 all0)).keep K111 (allS l106 all0)).keep K112 (allS l106 all0)).keep K113 (allS l106 all0)).keep K117 (allS l106 all0)).keep K118 (allS l106 all0))) S_C A_C hC ((((((((((E_1.ext E106).keep K108).keep K109).keep K110).keep K111).keep K112).keep K113).keep K117).keep K118)) ((((((((((F_1.ext E106).keep K108 (ninS (Nat.ne_of_lt (Nat.lt_of_lt_of_le (E_1).lt (Nat.le_of_eq g106.symm))) nin0)).keep K109 (ninS (Nat.ne_of_lt (Nat.lt_of_lt_of_le (E_1).lt (Nat.le_of_eq g106.symm))) nin0)).keep K110 (ninS (Nat.ne_of_lt (Nat.lt_of_lt_of_le (E_1).lt (Nat.le_of_eq g106.symm))) nin0)).keep K111 (ninS (Nat.ne_of_lt (Nat.lt_of_lt_of_le (E_1).lt (Nat.le_of_eq g106.symm))) nin0)).keep K112 (ninS (Nat.ne_of_lt (Nat.lt_of_lt_of_le (E_1).lt (Nat.le_of_eq g106.symm))) nin0)).keep K113 (ninS (Nat.ne_of_lt (Nat.lt_of_lt_of_le (E_1).lt (Nat.le_of_eq g106.symm))) nin0)).keep K117 (ninS (Nat.ne_of_lt (Nat.lt_of_lt_of_le (E_1).lt (Nat.le_of_eq g106.symm))) nin0)).keep K118 (ninS (Nat.ne_of_lt (Nat.lt_of_lt_of_le (E_1).lt (Nat.le_of_eq g106.symm))) nin0))) ((((((((((A_D.ext E106).keep K108 (ninS (Nat.ne_of_lt (Nat.lt_of_lt_of_le (A_D).lt (Nat.le_of_eq g106.symm))) nin0)).keep K109 (ninS (Nat.ne_of_lt (Nat.lt_of_lt_of_le (A_D).lt (Nat.le_of_eq g106.symm))) nin0)).keep K110 (ninS (Nat.ne_of_lt (Nat.lt_of_lt_of_le (A_D).lt (Nat.le_of_eq g106.symm))) nin0)).keep K111 (ninS (Nat.ne_of_lt (Nat.lt_of_lt_of_le (A_D).lt (Nat.le_of_eq g106.symm))) nin0)).keep K112 (ninS (Nat.ne_of_lt (Nat.lt_of_lt_of_le (A_D).lt (Nat.le_of_eq g106.symm))) nin0)).keep K113 (ninS (Nat.ne_of_lt (Nat.lt_of_lt_of_le (A_D).lt (Nat.le_of_eq g106.symm))) nin0)).keep K117 (ninS (Nat.ne_of_lt (Nat.lt_of_lt_of_le (A_D).lt (Nat.le_of_eq g106.symm))) nin0)).keep K118 (ninS (Nat.ne_of_lt (Nat.lt_of_lt_of_le (A_D).lt (Nat.le_of_eq g106.symm))) nin0))) (A118) l106 (by decide) (by decide) (by decide) rfl (by decide) rfl ?_
  intro T119 h119 L119 X119 e119 N119 K119 A119
  rw [show own_nx [(.int (own_up (own_up (0 : Int32) d1) d10)), (.int (own_up (own_up (0 : Int32) d2) d11)), (.int (own_up (0 : Int32) d3)), (.int (own_up (0 : Int32) d4)), (.int (own_up (0 : Int32) d5)), (.int (own_up (0 : Int32) d6))] (2 : Int32) (own_up (0 : Int32) d3) d12 = [(.int (own_up (own_up (0 : Int32) d1) d10)), (.int (own_up (own_up (0 : Int32) d2) d11)), (.int (own_up (own_up (0 : Int32) d3) d12)), (.int (own_up (0 : Int32) d4)), (.int (own_up (0 : Int32) d5)), (.int (own_up (0 : Int32) d6))] from by simp only [own_nx, own_up]; split <;> rfl] at A119
  refine rm_turn hx hw hZ hby hml hown X119 e119 N119 a1 b106 aD aC vC (10 : Int32) (3 : Int32) (4 : Int32) (own_up (0 : Int32) d4) d13 [(.int (own_up (own_up (0 : Int32) d1) d10)), (.int (own_up (own_up (0 : Int32) d2) d11)), (.int (own_up (own_up (0 : Int32) d3) d12)), (.int (own_up (0 : Int32) d4)), (.int (own_up (0 : Int32) d5)), (.int (own_up (0 : Int32) d6))] [(.int d0), (.int d1), (.int d2), (.int d3), (.int d4), (.int d5), (.int d6), (.int d7), (.int d8), (.int d9), (.int d10), (.int d11), (.int d12), (.int d13), (.int d14), (.int d15), (.int d16), (.int d17)] (((((((((((O_0.ext E106).keep K108 (allS l106 all0)).keep K109 (allS l106 all0)).keep K110 (allS l106 all0)).keep K111 (allS l106 all0)).keep K112 (allS l106 all0)).keep K113 (allS l106 all0)).keep K117 (allS l106 all0)).keep K118 (allS l106 all0)).keep K119 (allS l106 all0))) S_C A_C hC (((((((((((E_1.ext E106).keep K108).keep K109).keep K110).keep K111).keep K112).keep K113).keep K117).keep K118).keep K119)) (((((((((((F_1.ext E106).keep K108 (ninS (Nat.ne_of_lt (Nat.lt_of_lt_of_le (E_1).lt (Nat.le_of_eq g106.symm))) nin0)).keep K109 (ninS (Nat.ne_of_lt (Nat.lt_of_lt_of_le (E_1).lt (Nat.le_of_eq g106.symm))) nin0)).keep K110 (ninS (Nat.ne_of_lt (Nat.lt_of_lt_of_le (E_1).lt (Nat.le_of_eq g106.symm))) nin0)).keep K111 (ninS (Nat.ne_of_lt (Nat.lt_of_lt_of_le (E_1).lt (Nat.le_of_eq g106.symm))) nin0)).keep K112 (ninS (Nat.ne_of_lt (Nat.lt_of_lt_of_le (E_1).lt (Nat.le_of_eq g106.symm))) nin0)).keep K113 (ninS (Nat.ne_of_lt (Nat.lt_of_lt_of_le (E_1).lt (Nat.le_of_eq g106.symm))) nin0)).keep K117 (ninS (Nat.ne_of_lt (Nat.lt_of_lt_of_le (E_1).lt (Nat.le_of_eq g106.symm))) nin0)).keep K118 (ninS (Nat.ne_of_lt (Nat.lt_of_lt_of_le (E_1).lt (Nat.le_of_eq g106.symm))) nin0)).keep K119 (ninS (Nat.ne_of_lt (Nat.lt_of_lt_of_le (E_1).lt (Nat.le_of_eq g106.symm))) nin0))) (((((((((((A_D.ext E106).keep K108 (ninS (Nat.ne_of_lt (Nat.lt_of_lt_of_le (A_D).lt (Nat.le_of_eq g106.symm))) nin0)).keep K109 (ninS (Nat.ne_of_lt (Nat.lt_of_lt_of_le (A_D).lt (Nat.le_of_eq g106.symm))) nin0)).keep K110 (ninS (Nat.ne_of_lt (Nat.lt_of_lt_of_le (A_D).lt (Nat.le_of_eq g106.symm))) nin0)).keep K111 (ninS (Nat.ne_of_lt (Nat.lt_of_lt_of_le (A_D).lt (Nat.le_of_eq g106.symm))) nin0)).keep K112 (ninS (Nat.ne_of_lt (Nat.lt_of_lt_of_le (A_D).lt (Nat.le_of_eq g106.symm))) nin0)).keep K113 (ninS (Nat.ne_of_lt (Nat.lt_of_lt_of_le (A_D).lt (Nat.le_of_eq g106.symm))) nin0)).keep K117 (ninS (Nat.ne_of_lt (Nat.lt_of_lt_of_le (A_D).lt (Nat.le_of_eq g106.symm))) nin0)).keep K118 (ninS (Nat.ne_of_lt (Nat.lt_of_lt_of_le (A_D).lt (Nat.le_of_eq g106.symm))) nin0)).keep K119 (ninS (Nat.ne_of_lt (Nat.lt_of_lt_of_le (A_D).lt (Nat.le_of_eq g106.symm))) nin0))) (A119) l106 (by decide) (by decide) (by decide) rfl (by decide) rfl ?_
  intro T120 h120 L120 X120 e120 N120 K120 A120
  rw [show own_nx [(.int (own_up (own_up (0 : Int32) d1) d10)), (.int (own_up (own_up (0 : Int32) d2) d11)), (.int (own_up (own_up (0 : Int32) d3) d12)), (.int (own_up (0 : Int32) d4)), (.int (own_up (0 : Int32) d5)), (.int (own_up (0 : Int32) d6))] (3 : Int32) (own_up (0 : Int32) d4) d13 = [(.int (own_up (own_up (0 : Int32) d1) d10)), (.int (own_up (own_up (0 : Int32) d2) d11)), (.int (own_up (own_up (0 : Int32) d3) d12)), (.int (own_up (own_up (0 : Int32) d4) d13)), (.int (own_up (0 : Int32) d5)), (.int (own_up (0 : Int32) d6))] from by simp only [own_nx, own_up]; split <;> rfl] at A120
  refine rm_turn hx hw hZ hby hml hown X120 e120 N120 a1 b106 aD aC vC (10 : Int32) (4 : Int32) (5 : Int32) (own_up (0 : Int32) d5) d14 [(.int (own_up (own_up (0 : Int32) d1) d10)), (.int (own_up (own_up (0 : Int32) d2) d11)), (.int (own_up (own_up (0 : Int32) d3) d12)), (.int (own_up (own_up (0 : Int32) d4) d13)), (.int (own_up (0 : Int32) d5)), (.int (own_up (0 : Int32) d6))] [(.int d0), (.int d1), (.int d2), (.int d3), (.int d4), (.int d5), (.int d6), (.int d7), (.int d8), (.int d9), (.int d10), (.int d11), (.int d12), (.int d13), (.int d14), (.int d15), (.int d16), (.int d17)] ((((((((((((O_0.ext E106).keep K108 (allS l106 all0)).keep K109 (allS l106 all0)).keep K110 (allS l106 all0)).keep K111 (allS l106 all0)).keep K112 (allS l106 all0)).keep K113 (allS l106 all0)).keep K117 (allS l106 all0)).keep K118 (allS l106 all0)).keep K119 (allS l106 all0)).keep K120 (allS l106 all0))) S_C A_C hC ((((((((((((E_1.ext E106).keep K108).keep K109).keep K110).keep K111).keep K112).keep K113).keep K117).keep K118).keep K119).keep K120)) ((((((((((((F_1.ext E106).keep K108 (ninS (Nat.ne_of_lt (Nat.lt_of_lt_of_le (E_1).lt (Nat.le_of_eq g106.symm))) nin0)).keep K109 (ninS (Nat.ne_of_lt (Nat.lt_of_lt_of_le (E_1).lt (Nat.le_of_eq g106.symm))) nin0)).keep K110 (ninS (Nat.ne_of_lt (Nat.lt_of_lt_of_le (E_1).lt (Nat.le_of_eq g106.symm))) nin0)).keep K111 (ninS (Nat.ne_of_lt (Nat.lt_of_lt_of_le (E_1).lt (Nat.le_of_eq g106.symm))) nin0)).keep K112 (ninS (Nat.ne_of_lt (Nat.lt_of_lt_of_le (E_1).lt (Nat.le_of_eq g106.symm))) nin0)).keep K113 (ninS (Nat.ne_of_lt (Nat.lt_of_lt_of_le (E_1).lt (Nat.le_of_eq g106.symm))) nin0)).keep K117 (ninS (Nat.ne_of_lt (Nat.lt_of_lt_of_le (E_1).lt (Nat.le_of_eq g106.symm))) nin0)).keep K118 (ninS (Nat.ne_of_lt (Nat.lt_of_lt_of_le (E_1).lt (Nat.le_of_eq g106.symm))) nin0)).keep K119 (ninS (Nat.ne_of_lt (Nat.lt_of_lt_of_le (E_1).lt (Nat.le_of_eq g106.symm))) nin0)).keep K120 (ninS (Nat.ne_of_lt (Nat.lt_of_lt_of_le (E_1).lt (Nat.le_of_eq g106.symm))) nin0))) ((((((((((((A_D.ext E106).keep K108 (ninS (Nat.ne_of_lt (Nat.lt_of_lt_of_le (A_D).lt (Nat.le_of_eq g106.symm))) nin0)).keep K109 (ninS (Nat.ne_of_lt (Nat.lt_of_lt_of_le (A_D).lt (Nat.le_of_eq g106.symm))) nin0)).keep K110 (ninS (Nat.ne_of_lt (Nat.lt_of_lt_of_le (A_D).lt (Nat.le_of_eq g106.symm))) nin0)).keep K111 (ninS (Nat.ne_of_lt (Nat.lt_of_lt_of_le (A_D).lt (Nat.le_of_eq g106.symm))) nin0)).keep K112 (ninS (Nat.ne_of_lt (Nat.lt_of_lt_of_le (A_D).lt (Nat.le_of_eq g106.symm))) nin0)).keep K113 (ninS (Nat.ne_of_lt (Nat.lt_of_lt_of_le (A_D).lt (Nat.le_of_eq g106.symm))) nin0)).keep K117 (ninS (Nat.ne_of_lt (Nat.lt_of_lt_of_le (A_D).lt (Nat.le_of_eq g106.symm))) nin0)).keep K118 (ninS (Nat.ne_of_lt (Nat.lt_of_lt_of_le (A_D).lt (Nat.le_of_eq g106.symm))) nin0)).keep K119 (ninS (Nat.ne_of_lt (Nat.lt_of_lt_of_le (A_D).lt (Nat.le_of_eq g106.symm))) nin0)).keep K120 (ninS (Nat.ne_of_lt (Nat.lt_of_lt_of_le (A_D).lt (Nat.le_of_eq g106.symm))) nin0))) (A120) l106 (by decide) (by decide) (by decide) rfl (by decide) rfl ?_
  intro T121 h121 L121 X121 e121 N121 K121 A121
  rw [show own_nx [(.int (own_up (own_up (0 : Int32) d1) d10)), (.int (own_up (own_up (0 : Int32) d2) d11)), (.int (own_up (own_up (0 : Int32) d3) d12)), (.int (own_up (own_up (0 : Int32) d4) d13)), (.int (own_up (0 : Int32) d5)), (.int (own_up (0 : Int32) d6))] (4 : Int32) (own_up (0 : Int32) d5) d14 = [(.int (own_up (own_up (0 : Int32) d1) d10)), (.int (own_up (own_up (0 : Int32) d2) d11)), (.int (own_up (own_up (0 : Int32) d3) d12)), (.int (own_up (own_up (0 : Int32) d4) d13)), (.int (own_up (own_up (0 : Int32) d5) d14)), (.int (own_up (0 : Int32) d6))] from by simp only [own_nx, own_up]; split <;> rfl] at A121
  refine rm_turn hx hw hZ hby hml hown X121 e121 N121 a1 b106 aD aC vC (10 : Int32) (5 : Int32) (6 : Int32) (own_up (0 : Int32) d6) d15 [(.int (own_up (own_up (0 : Int32) d1) d10)), (.int (own_up (own_up (0 : Int32) d2) d11)), (.int (own_up (own_up (0 : Int32) d3) d12)), (.int (own_up (own_up (0 : Int32) d4) d13)), (.int (own_up (own_up (0 : Int32) d5) d14)), (.int (own_up (0 : Int32) d6))] [(.int d0), (.int d1), (.int d2), (.int d3), (.int d4), (.int d5), (.int d6), (.int d7), (.int d8), (.int d9), (.int d10), (.int d11), (.int d12), (.int d13), (.int d14), (.int d15), (.int d16), (.int d17)] (((((((((((((O_0.ext E106).keep K108 (allS l106 all0)).keep K109 (allS l106 all0)).keep K110 (allS l106 all0)).keep K111 (allS l106 all0)).keep K112 (allS l106 all0)).keep K113 (allS l106 all0)).keep K117 (allS l106 all0)).keep K118 (allS l106 all0)).keep K119 (allS l106 all0)).keep K120 (allS l106 all0)).keep K121 (allS l106 all0))) S_C A_C hC (((((((((((((E_1.ext E106).keep K108).keep K109).keep K110).keep K111).keep K112).keep K113).keep K117).keep K118).keep K119).keep K120).keep K121)) (((((((((((((F_1.ext E106).keep K108 (ninS (Nat.ne_of_lt (Nat.lt_of_lt_of_le (E_1).lt (Nat.le_of_eq g106.symm))) nin0)).keep K109 (ninS (Nat.ne_of_lt (Nat.lt_of_lt_of_le (E_1).lt (Nat.le_of_eq g106.symm))) nin0)).keep K110 (ninS (Nat.ne_of_lt (Nat.lt_of_lt_of_le (E_1).lt (Nat.le_of_eq g106.symm))) nin0)).keep K111 (ninS (Nat.ne_of_lt (Nat.lt_of_lt_of_le (E_1).lt (Nat.le_of_eq g106.symm))) nin0)).keep K112 (ninS (Nat.ne_of_lt (Nat.lt_of_lt_of_le (E_1).lt (Nat.le_of_eq g106.symm))) nin0)).keep K113 (ninS (Nat.ne_of_lt (Nat.lt_of_lt_of_le (E_1).lt (Nat.le_of_eq g106.symm))) nin0)).keep K117 (ninS (Nat.ne_of_lt (Nat.lt_of_lt_of_le (E_1).lt (Nat.le_of_eq g106.symm))) nin0)).keep K118 (ninS (Nat.ne_of_lt (Nat.lt_of_lt_of_le (E_1).lt (Nat.le_of_eq g106.symm))) nin0)).keep K119 (ninS (Nat.ne_of_lt (Nat.lt_of_lt_of_le (E_1).lt (Nat.le_of_eq g106.symm))) nin0)).keep K120 (ninS (Nat.ne_of_lt (Nat.lt_of_lt_of_le (E_1).lt (Nat.le_of_eq g106.symm))) nin0)).keep K121 (ninS (Nat.ne_of_lt (Nat.lt_of_lt_of_le (E_1).lt (Nat.le_of_eq g106.symm))) nin0))) (((((((((((((A_D.ext E106).keep K108 (ninS (Nat.ne_of_lt (Nat.lt_of_lt_of_le (A_D).lt (Nat.le_of_eq g106.symm))) nin0)).keep K109 (ninS (Nat.ne_of_lt (Nat.lt_of_lt_of_le (A_D).lt (Nat.le_of_eq g106.symm))) nin0)).keep K110 (ninS (Nat.ne_of_lt (Nat.lt_of_lt_of_le (A_D).lt (Nat.le_of_eq g106.symm))) nin0)).keep K111 (ninS (Nat.ne_of_lt (Nat.lt_of_lt_of_le (A_D).lt (Nat.le_of_eq g106.symm))) nin0)).keep K112 (ninS (Nat.ne_of_lt (Nat.lt_of_lt_of_le (A_D).lt (Nat.le_of_eq g106.symm))) nin0)).keep K113 (ninS (Nat.ne_of_lt (Nat.lt_of_lt_of_le (A_D).lt (Nat.le_of_eq g106.symm))) nin0)).keep K117 (ninS (Nat.ne_of_lt (Nat.lt_of_lt_of_le (A_D).lt (Nat.le_of_eq g106.symm))) nin0)).keep K118 (ninS (Nat.ne_of_lt (Nat.lt_of_lt_of_le (A_D).lt (Nat.le_of_eq g106.symm))) nin0)).keep K119 (ninS (Nat.ne_of_lt (Nat.lt_of_lt_of_le (A_D).lt (Nat.le_of_eq g106.symm))) nin0)).keep K120 (ninS (Nat.ne_of_lt (Nat.lt_of_lt_of_le (A_D).lt (Nat.le_of_eq g106.symm))) nin0)).keep K121 (ninS (Nat.ne_of_lt (Nat.lt_of_lt_of_le (A_D).lt (Nat.le_of_eq g106.symm))) nin0))) (A121) l106 (by decide) (by decide) (by decide) rfl (by decide) rfl ?_
  intro T122 h122 L122 X122 e122 N122 K122 A122
  rw [show own_nx [(.int (own_up (own_up (0 : Int32) d1) d10)), (.int (own_up (own_up (0 : Int32) d2) d11)), (.int (own_up (own_up (0 : Int32) d3) d12)), (.int (own_up (own_up (0 : Int32) d4) d13)), (.int (own_up (own_up (0 : Int32) d5) d14)), (.int (own_up (0 : Int32) d6))] (5 : Int32) (own_up (0 : Int32) d6) d15 = [(.int (own_up (own_up (0 : Int32) d1) d10)), (.int (own_up (own_up (0 : Int32) d2) d11)), (.int (own_up (own_up (0 : Int32) d3) d12)), (.int (own_up (own_up (0 : Int32) d4) d13)), (.int (own_up (own_up (0 : Int32) d5) d14)), (.int (own_up (own_up (0 : Int32) d6) d15))] from by simp only [own_nx, own_up]; split <;> rfl] at A122
  show own_Go p.tables e below (T122.setTop (mkF m 19 #[.val (.ref a1), .val (.ref b106), .val (.int (10 : Int32)), .val (.int (6 : Int32))] [])) _
  refine own_iloadN X122 hx hby own_d7_19 (pc' := 20) rfl rfl ?_
  refine own_getS X122 hx hby own_d7_20 (pc' := 23) rfl hZ hown (host := "") (Or.inl (hw _ (List.mem_of_getElem? (i := 35) rfl))) Via.refl e122 (S_C.ext ((((((((((((((O_0.ext E106).keep K108 (allS l106 all0)).keep K109 (allS l106 all0)).keep K110 (allS l106 all0)).keep K111 (allS l106 all0)).keep K112 (allS l106 all0)).keep K113 (allS l106 all0)).keep K117 (allS l106 all0)).keep K118 (allS l106 all0)).keep K119 (allS l106 all0)).keep K120 (allS l106 all0)).keep K121 (allS l106 all0)).keep K122 (allS l106 all0))).2) ?_
  intro T123 X123 e123
  refine own_len X123 hx hby own_d7_23 (pc' := 24) rfl hZ e123 (A_C.ext ((((((((((((((O_0.ext E106).keep K108 (allS l106 all0)).keep K109 (allS l106 all0)).keep K110 (allS l106 all0)).keep K111 (allS l106 all0)).keep K112 (allS l106 all0)).keep K113 (allS l106 all0)).keep K117 (allS l106 all0)).keep K118 (allS l106 all0)).keep K119 (allS l106 all0)).keep K120 (allS l106 all0)).keep K121 (allS l106 all0)).keep K122 (allS l106 all0))).2) hC ?_
  refine own_icmpYes X123 hx hby own_d7_24 (pc' := 51) (by decide) (by decide) ?_
  refine own_iloadN X123 hx hby own_d7_51 (pc' := 52) rfl rfl ?_
  refine own_getS X123 hx hby own_d7_52 (pc' := 55) rfl hZ hown (host := "") (Or.inl (hw _ (List.mem_of_getElem? (i := 18) rfl))) Via.refl e123 (S_S.ext ((((((((((((((O_0.ext E106).keep K108 (allS l106 all0)).keep K109 (allS l106 all0)).keep K110 (allS l106 all0)).keep K111 (allS l106 all0)).keep K112 (allS l106 all0)).keep K113 (allS l106 all0)).keep K117 (allS l106 all0)).keep K118 (allS l106 all0)).keep K119 (allS l106 all0)).keep K120 (allS l106 all0)).keep K121 (allS l106 all0)).keep K122 (allS l106 all0))).2) ?_
  intro T124 X124 e124
  refine own_iadd X124 hx hby own_d7_55 (pc' := 56) rfl (z := (19 : Int32)) (by decide) ?_
  refine own_istoreN X124 hx hby own_d7_56 (pc' := 57) rfl (Ls' := #[.val (.ref a1), .val (.ref b106), .val (.int (19 : Int32)), .val (.int (6 : Int32))]) rfl ?_
  refine own_goto X124 hx hby own_d7_57 (pc' := 9) (by decide) ?_
  refine own_iloadN X124 hx hby own_d7_9 (pc' := 10) rfl rfl ?_
  refine own_aloadN X124 hx hby own_d7_10 (pc' := 11) rfl rfl rfl ?_
  refine own_getF X124 hx hby own_d7_11 (pc' := 14) rfl hZ hown (host := "") (Or.inl (hw _ (List.mem_of_getElem? (i := 28) rfl))) Via.refl e124 (((((((((((((F_2.ext E106).keep K108 (ninS (Nat.ne_of_lt (Nat.lt_of_lt_of_le (E_1).lt (Nat.le_of_eq g106.symm))) nin0)).keep K109 (ninS (Nat.ne_of_lt (Nat.lt_of_lt_of_le (E_1).lt (Nat.le_of_eq g106.symm))) nin0)).keep K110 (ninS (Nat.ne_of_lt (Nat.lt_of_lt_of_le (E_1).lt (Nat.le_of_eq g106.symm))) nin0)).keep K111 (ninS (Nat.ne_of_lt (Nat.lt_of_lt_of_le (E_1).lt (Nat.le_of_eq g106.symm))) nin0)).keep K112 (ninS (Nat.ne_of_lt (Nat.lt_of_lt_of_le (E_1).lt (Nat.le_of_eq g106.symm))) nin0)).keep K113 (ninS (Nat.ne_of_lt (Nat.lt_of_lt_of_le (E_1).lt (Nat.le_of_eq g106.symm))) nin0)).keep K117 (ninS (Nat.ne_of_lt (Nat.lt_of_lt_of_le (E_1).lt (Nat.le_of_eq g106.symm))) nin0)).keep K118 (ninS (Nat.ne_of_lt (Nat.lt_of_lt_of_le (E_1).lt (Nat.le_of_eq g106.symm))) nin0)).keep K119 (ninS (Nat.ne_of_lt (Nat.lt_of_lt_of_le (E_1).lt (Nat.le_of_eq g106.symm))) nin0)).keep K120 (ninS (Nat.ne_of_lt (Nat.lt_of_lt_of_le (E_1).lt (Nat.le_of_eq g106.symm))) nin0)).keep K121 (ninS (Nat.ne_of_lt (Nat.lt_of_lt_of_le (E_1).lt (Nat.le_of_eq g106.symm))) nin0)).keep K122 (ninS (Nat.ne_of_lt (Nat.lt_of_lt_of_le (E_1).lt (Nat.le_of_eq g106.symm))) nin0)) ?_
  intro T125 X125 e125
  refine own_icmpYes X125 hx hby own_d7_14 (pc' := 60) (by decide) (by decide) ?_
  refine own_aloadN X125 hx hby own_d7_60 (pc' := 61) rfl rfl rfl ?_
  exact own_retA X125 hx hret rfl rfl (hb hby own_d7_61) hlk (by decide) (by decide) ⟨b106, rfl, N122, by rw [show T125.heap = _ from e125]; exact ⟨((((((((((((((Keep.refl h0 []).ext E106).trans K108 (allS (Or.inr (Nat.le_trans (Nat.le_refl _) (Nat.le_of_eq g106.symm))) all0)).trans K109 (allS (Or.inr (Nat.le_trans (Nat.le_refl _) (Nat.le_of_eq g106.symm))) all0)).trans K110 (allS (Or.inr (Nat.le_trans (Nat.le_refl _) (Nat.le_of_eq g106.symm))) all0)).trans K111 (allS (Or.inr (Nat.le_trans (Nat.le_refl _) (Nat.le_of_eq g106.symm))) all0)).trans K112 (allS (Or.inr (Nat.le_trans (Nat.le_refl _) (Nat.le_of_eq g106.symm))) all0)).trans K113 (allS (Or.inr (Nat.le_trans (Nat.le_refl _) (Nat.le_of_eq g106.symm))) all0)).trans K117 (allS (Or.inr (Nat.le_trans (Nat.le_refl _) (Nat.le_of_eq g106.symm))) all0)).trans K118 (allS (Or.inr (Nat.le_trans (Nat.le_refl _) (Nat.le_of_eq g106.symm))) all0)).trans K119 (allS (Or.inr (Nat.le_trans (Nat.le_refl _) (Nat.le_of_eq g106.symm))) all0)).trans K120 (allS (Or.inr (Nat.le_trans (Nat.le_refl _) (Nat.le_of_eq g106.symm))) all0)).trans K121 (allS (Or.inr (Nat.le_trans (Nat.le_refl _) (Nat.le_of_eq g106.symm))) all0)).trans K122 (allS (Or.inr (Nat.le_trans (Nat.le_refl _) (Nat.le_of_eq g106.symm))) all0)), (Nat.le_of_eq g106.symm), A122⟩⟩
theorem own_ef_rm_cs3 (m : MethodId) (a1 : Addr) : entryFrame m #[(.ref a1)] 4 = mkF m 0 #[.val (.ref a1), .unset, .unset, .unset] [] := by first | (simp [entryFrame, mkF, argsToLocals, Value.category]; done) | rfl
def Qrm_cs3 (Z : State) (a1 : Addr) (aD : Addr) (aC : Addr) (vC : List Value) (d0 : Int32) (d1 : Int32) (d2 : Int32) (d3 : Int32) (d4 : Int32) (d5 : Int32) (d6 : Int32) (d7 : Int32) (d8 : Int32) (d9 : Int32) (d10 : Int32) (d11 : Int32) (d12 : Int32) (d13 : Int32) (d14 : Int32) (d15 : Int32) (d16 : Int32) (d17 : Int32) (d18 : Int32) (d19 : Int32) (d20 : Int32) (d21 : Int32) (d22 : Int32) (d23 : Int32) (d24 : Int32) (d25 : Int32) (d26 : Int32) (h0 : Heap) (n0 : Nat) (v : Option Value) (h : Heap) (L : List Loc) : Prop := ∃ b, v = some (.ref b) ∧ Fr n0 L ∧ Keep h0 h [] ∧ h0.size ≤ b ∧ own_Ar Z h b .int [(.int (own_up (own_up (own_up (0 : Int32) d1) d10) d19)), (.int (own_up (own_up (own_up (0 : Int32) d2) d11) d20)), (.int (own_up (own_up (own_up (0 : Int32) d3) d12) d21)), (.int (own_up (own_up (own_up (0 : Int32) d4) d13) d22)), (.int (own_up (own_up (own_up (0 : Int32) d5) d14) d23)), (.int (own_up (own_up (own_up (0 : Int32) d6) d15) d24))]
set_option maxRecDepth 65536 in
set_option maxHeartbeats 40000000 in
theorem rm_cs3 (l : Launch) (Z : State) (a0 : Array Value) (hw : ∀ d ∈ tables_1, d.before a0 Z = true) (ws : List Jvm.Cond) (a1 : Addr) (aD : Addr) (aC : Addr) (vC : List Value) (d0 : Int32) (d1 : Int32) (d2 : Int32) (d3 : Int32) (d4 : Int32) (d5 : Int32) (d6 : Int32) (d7 : Int32) (d8 : Int32) (d9 : Int32) (d10 : Int32) (d11 : Int32) (d12 : Int32) (d13 : Int32) (d14 : Int32) (d15 : Int32) (d16 : Int32) (d17 : Int32) (d18 : Int32) (d19 : Int32) (d20 : Int32) (d21 : Int32) (d22 : Int32) (d23 : Int32) (d24 : Int32) (d25 : Int32) (d26 : Int32) (h0 : Heap) (n0 : Nat) (O_0 : Old Z n0 h0) (S_S : Sta Z Z.heap "com/example/tag_weighted_rank/tagweightedrank/Postings" "STRIDE" "I" (.int (9 : Int32))) (S_C : Sta Z Z.heap "com/example/tag_weighted_rank/tagweightedrank/Postings" "CLASSES" "[Lcom/example/tag_weighted_rank/tagweightedrank/TagClass;" (.ref aC)) (A_C : own_Ar Z Z.heap aC (.object "com/example/tag_weighted_rank/tagweightedrank/TagClass") vC) (hC : vC.length.toInt32 = 6) (E_1 : Exa Z h0 a1 "com/example/tag_weighted_rank/tagweightedrank/Postings") (F_1 : Fld Z h0 a1 "com/example/tag_weighted_rank/tagweightedrank/Postings" "data" "[I" (.ref aD)) (F_2 : Fld Z h0 a1 "com/example/tag_weighted_rank/tagweightedrank/Postings" "length" "I" (.int (27 : Int32))) (A_D : own_Ar Z h0 aD .int [(.int d0), (.int d1), (.int d2), (.int d3), (.int d4), (.int d5), (.int d6), (.int d7), (.int d8), (.int d9), (.int d10), (.int d11), (.int d12), (.int d13), (.int d14), (.int d15), (.int d16), (.int d17), (.int d18), (.int d19), (.int d20), (.int d21), (.int d22), (.int d23), (.int d24), (.int d25), (.int d26), (.int (0 : Int32)), (.int (0 : Int32)), (.int (0 : Int32)), (.int (0 : Int32)), (.int (0 : Int32)), (.int (0 : Int32)), (.int (0 : Int32)), (.int (0 : Int32)), (.int (0 : Int32))]) :
    own_Met l (⟨"com/example/tag_weighted_rank/tagweightedrank/Postings", "classSizes", "()[I"⟩ : MethodName) prog_17_method_7_code 4 (some (.array .int)) ws ({ frames := 0, cells := 1, slots := 6, locals := 0 } : Room) #[(.ref a1)] Z h0 (Qrm_cs3 Z a1 aD aC vC d0 d1 d2 d3 d4 d5 d6 d7 d8 d9 d10 d11 d12 d13 d14 d15 d16 d17 d18 d19 d20 d21 d22 d23 d24 d25 d26 h0 n0) := by
  refine own_body own_pn7 ?_
  intro p e s m below meth c T0 X0 hx hby hml hown hnm hret hlk hZ e0
  have N0 := Fr.nil n0
  refine own_st (fun t k => castTop (own_ef_rm_cs3 m a1) k) ?_
  show own_Go p.tables e below (T0.setTop (mkF m 0 #[.val (.ref a1), .unset, .unset, .unset] [])) _
  have Z0 := own_Z0 O_0
  refine own_getS X0 hx hby own_d7_0 (pc' := 3) rfl hZ hown (host := "") (Or.inl (hw _ (List.mem_of_getElem? (i := 35) rfl))) Via.refl e0 (S_C.ext (O_0).2) ?_
  intro T126 X126 e126
  refine own_len X126 hx hby own_d7_3 (pc' := 4) rfl hZ e126 (A_C.ext (O_0).2) hC ?_
  refine own_newA X126 hx hby own_d7_4 (pc' := 6) rfl hZ (hw _ (List.mem_of_getElem? (i := 4) rfl)) e126 (by decide) (cap := 6) (by decide) (by decide) (by decide) (by decide) (vs := [(.int (0 : Int32)), (.int (0 : Int32)), (.int (0 : Int32)), (.int (0 : Int32)), (.int (0 : Int32)), (.int (0 : Int32))]) (by rfl) ?_
  intro T127 h127 b127 X127 e127 g127 E127 A127
  have l127 : n0 ≤ b127 := (Nat.le_trans Z0 (Nat.le_trans (Nat.le_refl _) (Nat.le_of_eq g127.symm)))
  refine own_astoreN X127 hx hby own_d7_6 (pc' := 7) rfl rfl (Ls' := #[.val (.ref a1), .val (.ref b127), .unset, .unset]) rfl ?_
  refine own_iconst X127 hx hby own_d7_7 (pc' := 8) rfl (z := (1 : Int32)) (by decide) ?_
  refine own_istoreN X127 hx hby own_d7_8 (pc' := 9) rfl (Ls' := #[.val (.ref a1), .val (.ref b127), .val (.int (1 : Int32)), .unset]) rfl ?_
  refine own_iloadN X127 hx hby own_d7_9 (pc' := 10) rfl rfl ?_
  refine own_aloadN X127 hx hby own_d7_10 (pc' := 11) rfl rfl rfl ?_
  refine own_getF X127 hx hby own_d7_11 (pc' := 14) rfl hZ hown (host := "") (Or.inl (hw _ (List.mem_of_getElem? (i := 28) rfl))) Via.refl e127 (F_2.ext E127) ?_
  intro T128 X128 e128
  refine own_icmpNo X128 hx hby own_d7_14 (pc' := 17) rfl (by decide) ?_
  refine own_iconst X128 hx hby own_d7_17 (pc' := 18) rfl (z := (0 : Int32)) (by decide) ?_
  refine own_istoreN X128 hx hby own_d7_18 (pc' := 19) rfl (Ls' := #[.val (.ref a1), .val (.ref b127), .val (.int (1 : Int32)), .val (.int (0 : Int32))]) rfl ?_
  refine rm_turn hx hw hZ hby hml hown X128 e128 N0 a1 b127 aD aC vC (1 : Int32) (0 : Int32) (1 : Int32) (0 : Int32) d1 [(.int (0 : Int32)), (.int (0 : Int32)), (.int (0 : Int32)), (.int (0 : Int32)), (.int (0 : Int32)), (.int (0 : Int32))] [(.int d0), (.int d1), (.int d2), (.int d3), (.int d4), (.int d5), (.int d6), (.int d7), (.int d8), (.int d9), (.int d10), (.int d11), (.int d12), (.int d13), (.int d14), (.int d15), (.int d16), (.int d17), (.int d18), (.int d19), (.int d20), (.int d21), (.int d22), (.int d23), (.int d24), (.int d25), (.int d26), (.int (0 : Int32)), (.int (0 : Int32)), (.int (0 : Int32)), (.int (0 : Int32)), (.int (0 : Int32)), (.int (0 : Int32)), (.int (0 : Int32)), (.int (0 : Int32)), (.int (0 : Int32))] ((O_0.ext E127)) S_C A_C hC ((E_1.ext E127)) ((F_1.ext E127)) ((A_D.ext E127)) (A127) l127 (by decide) (by decide) (by decide) rfl (by decide) rfl ?_
  intro T129 h129 L129 X129 e129 N129 K129 A129
  rw [show own_nx [(.int (0 : Int32)), (.int (0 : Int32)), (.int (0 : Int32)), (.int (0 : Int32)), (.int (0 : Int32)), (.int (0 : Int32))] (0 : Int32) (0 : Int32) d1 = [(.int (own_up (0 : Int32) d1)), (.int (0 : Int32)), (.int (0 : Int32)), (.int (0 : Int32)), (.int (0 : Int32)), (.int (0 : Int32))] from by simp only [own_nx, own_up]; split <;> rfl] at A129
  refine rm_turn hx hw hZ hby hml hown X129 e129 N129 a1 b127 aD aC vC (1 : Int32) (1 : Int32) (2 : Int32) (0 : Int32) d2 [(.int (own_up (0 : Int32) d1)), (.int (0 : Int32)), (.int (0 : Int32)), (.int (0 : Int32)), (.int (0 : Int32)), (.int (0 : Int32))] [(.int d0), (.int d1), (.int d2), (.int d3), (.int d4), (.int d5), (.int d6), (.int d7), (.int d8), (.int d9), (.int d10), (.int d11), (.int d12), (.int d13), (.int d14), (.int d15), (.int d16), (.int d17), (.int d18), (.int d19), (.int d20), (.int d21), (.int d22), (.int d23), (.int d24), (.int d25), (.int d26), (.int (0 : Int32)), (.int (0 : Int32)), (.int (0 : Int32)), (.int (0 : Int32)), (.int (0 : Int32)), (.int (0 : Int32)), (.int (0 : Int32)), (.int (0 : Int32)), (.int (0 : Int32))] (((O_0.ext E127).keep K129 (allS l127 all0))) S_C A_C hC (((E_1.ext E127).keep K129)) (((F_1.ext E127).keep K129 (ninS (Nat.ne_of_lt (Nat.lt_of_lt_of_le (E_1).lt (Nat.le_of_eq g127.symm))) nin0))) (((A_D.ext E127).keep K129 (ninS (Nat.ne_of_lt (Nat.lt_of_lt_of_le (A_D).lt (Nat.le_of_eq g127.symm))) nin0))) (A129) l127 (by decide) (by decide) (by decide) rfl (by decide) rfl ?_
  intro T130 h130 L130 X130 e130 N130 K130 A130
  rw [show own_nx [(.int (own_up (0 : Int32) d1)), (.int (0 : Int32)), (.int (0 : Int32)), (.int (0 : Int32)), (.int (0 : Int32)), (.int (0 : Int32))] (1 : Int32) (0 : Int32) d2 = [(.int (own_up (0 : Int32) d1)), (.int (own_up (0 : Int32) d2)), (.int (0 : Int32)), (.int (0 : Int32)), (.int (0 : Int32)), (.int (0 : Int32))] from by simp only [own_nx, own_up]; split <;> rfl] at A130
  refine rm_turn hx hw hZ hby hml hown X130 e130 N130 a1 b127 aD aC vC (1 : Int32) (2 : Int32) (3 : Int32) (0 : Int32) d3 [(.int (own_up (0 : Int32) d1)), (.int (own_up (0 : Int32) d2)), (.int (0 : Int32)), (.int (0 : Int32)), (.int (0 : Int32)), (.int (0 : Int32))] [(.int d0), (.int d1), (.int d2), (.int d3), (.int d4), (.int d5), (.int d6), (.int d7), (.int d8), (.int d9), (.int d10), (.int d11), (.int d12), (.int d13), (.int d14), (.int d15), (.int d16), (.int d17), (.int d18), (.int d19), (.int d20), (.int d21), (.int d22), (.int d23), (.int d24), (.int d25), (.int d26), (.int (0 : Int32)), (.int (0 : Int32)), (.int (0 : Int32)), (.int (0 : Int32)), (.int (0 : Int32)), (.int (0 : Int32)), (.int (0 : Int32)), (.int (0 : Int32)), (.int (0 : Int32))] ((((O_0.ext E127).keep K129 (allS l127 all0)).keep K130 (allS l127 all0))) S_C A_C hC ((((E_1.ext E127).keep K129).keep K130)) ((((F_1.ext E127).keep K129 (ninS (Nat.ne_of_lt (Nat.lt_of_lt_of_le (E_1).lt (Nat.le_of_eq g127.symm))) nin0)).keep K130 (ninS (Nat.ne_of_lt (Nat.lt_of_lt_of_le (E_1).lt (Nat.le_of_eq g127.symm))) nin0))) ((((A_D.ext E127).keep K129 (ninS (Nat.ne_of_lt (Nat.lt_of_lt_of_le (A_D).lt (Nat.le_of_eq g127.symm))) nin0)).keep K130 (ninS (Nat.ne_of_lt (Nat.lt_of_lt_of_le (A_D).lt (Nat.le_of_eq g127.symm))) nin0))) (A130) l127 (by decide) (by decide) (by decide) rfl (by decide) rfl ?_
  intro T131 h131 L131 X131 e131 N131 K131 A131
  rw [show own_nx [(.int (own_up (0 : Int32) d1)), (.int (own_up (0 : Int32) d2)), (.int (0 : Int32)), (.int (0 : Int32)), (.int (0 : Int32)), (.int (0 : Int32))] (2 : Int32) (0 : Int32) d3 = [(.int (own_up (0 : Int32) d1)), (.int (own_up (0 : Int32) d2)), (.int (own_up (0 : Int32) d3)), (.int (0 : Int32)), (.int (0 : Int32)), (.int (0 : Int32))] from by simp only [own_nx, own_up]; split <;> rfl] at A131
  refine rm_turn hx hw hZ hby hml hown X131 e131 N131 a1 b127 aD aC vC (1 : Int32) (3 : Int32) (4 : Int32) (0 : Int32) d4 [(.int (own_up (0 : Int32) d1)), (.int (own_up (0 : Int32) d2)), (.int (own_up (0 : Int32) d3)), (.int (0 : Int32)), (.int (0 : Int32)), (.int (0 : Int32))] [(.int d0), (.int d1), (.int d2), (.int d3), (.int d4), (.int d5), (.int d6), (.int d7), (.int d8), (.int d9), (.int d10), (.int d11), (.int d12), (.int d13), (.int d14), (.int d15), (.int d16), (.int d17), (.int d18), (.int d19), (.int d20), (.int d21), (.int d22), (.int d23), (.int d24), (.int d25), (.int d26), (.int (0 : Int32)), (.int (0 : Int32)), (.int (0 : Int32)), (.int (0 : Int32)), (.int (0 : Int32)), (.int (0 : Int32)), (.int (0 : Int32)), (.int (0 : Int32)), (.int (0 : Int32))] (((((O_0.ext E127).keep K129 (allS l127 all0)).keep K130 (allS l127 all0)).keep K131 (allS l127 all0))) S_C A_C hC (((((E_1.ext E127).keep K129).keep K130).keep K131)) (((((F_1.ext E127).keep K129 (ninS (Nat.ne_of_lt (Nat.lt_of_lt_of_le (E_1).lt (Nat.le_of_eq g127.symm))) nin0)).keep K130 (ninS (Nat.ne_of_lt (Nat.lt_of_lt_of_le (E_1).lt (Nat.le_of_eq g127.symm))) nin0)).keep K131 (ninS (Nat.ne_of_lt (Nat.lt_of_lt_of_le (E_1).lt (Nat.le_of_eq g127.symm))) nin0))) (((((A_D.ext E127).keep K129 (ninS (Nat.ne_of_lt (Nat.lt_of_lt_of_le (A_D).lt (Nat.le_of_eq g127.symm))) nin0)).keep K130 (ninS (Nat.ne_of_lt (Nat.lt_of_lt_of_le (A_D).lt (Nat.le_of_eq g127.symm))) nin0)).keep K131 (ninS (Nat.ne_of_lt (Nat.lt_of_lt_of_le (A_D).lt (Nat.le_of_eq g127.symm))) nin0))) (A131) l127 (by decide) (by decide) (by decide) rfl (by decide) rfl ?_
  intro T132 h132 L132 X132 e132 N132 K132 A132
  rw [show own_nx [(.int (own_up (0 : Int32) d1)), (.int (own_up (0 : Int32) d2)), (.int (own_up (0 : Int32) d3)), (.int (0 : Int32)), (.int (0 : Int32)), (.int (0 : Int32))] (3 : Int32) (0 : Int32) d4 = [(.int (own_up (0 : Int32) d1)), (.int (own_up (0 : Int32) d2)), (.int (own_up (0 : Int32) d3)), (.int (own_up (0 : Int32) d4)), (.int (0 : Int32)), (.int (0 : Int32))] from by simp only [own_nx, own_up]; split <;> rfl] at A132
  refine rm_turn hx hw hZ hby hml hown X132 e132 N132 a1 b127 aD aC vC (1 : Int32) (4 : Int32) (5 : Int32) (0 : Int32) d5 [(.int (own_up (0 : Int32) d1)), (.int (own_up (0 : Int32) d2)), (.int (own_up (0 : Int32) d3)), (.int (own_up (0 : Int32) d4)), (.int (0 : Int32)), (.int (0 : Int32))] [(.int d0), (.int d1), (.int d2), (.int d3), (.int d4), (.int d5), (.int d6), (.int d7), (.int d8), (.int d9), (.int d10), (.int d11), (.int d12), (.int d13), (.int d14), (.int d15), (.int d16), (.int d17), (.int d18), (.int d19), (.int d20), (.int d21), (.int d22), (.int d23), (.int d24), (.int d25), (.int d26), (.int (0 : Int32)), (.int (0 : Int32)), (.int (0 : Int32)), (.int (0 : Int32)), (.int (0 : Int32)), (.int (0 : Int32)), (.int (0 : Int32)), (.int (0 : Int32)), (.int (0 : Int32))] ((((((O_0.ext E127).keep K129 (allS l127 all0)).keep K130 (allS l127 all0)).keep K131 (allS l127 all0)).keep K132 (allS l127 all0))) S_C A_C hC ((((((E_1.ext E127).keep K129).keep K130).keep K131).keep K132)) ((((((F_1.ext E127).keep K129 (ninS (Nat.ne_of_lt (Nat.lt_of_lt_of_le (E_1).lt (Nat.le_of_eq g127.symm))) nin0)).keep K130 (ninS (Nat.ne_of_lt (Nat.lt_of_lt_of_le (E_1).lt (Nat.le_of_eq g127.symm))) nin0)).keep K131 (ninS (Nat.ne_of_lt (Nat.lt_of_lt_of_le (E_1).lt (Nat.le_of_eq g127.symm))) nin0)).keep K132 (ninS (Nat.ne_of_lt (Nat.lt_of_lt_of_le (E_1).lt (Nat.le_of_eq g127.symm))) nin0))) ((((((A_D.ext E127).keep K129 (ninS (Nat.ne_of_lt (Nat.lt_of_lt_of_le (A_D).lt (Nat.le_of_eq g127.symm))) nin0)).keep K130 (ninS (Nat.ne_of_lt (Nat.lt_of_lt_of_le (A_D).lt (Nat.le_of_eq g127.symm))) nin0)).keep K131 (ninS (Nat.ne_of_lt (Nat.lt_of_lt_of_le (A_D).lt (Nat.le_of_eq g127.symm))) nin0)).keep K132 (ninS (Nat.ne_of_lt (Nat.lt_of_lt_of_le (A_D).lt (Nat.le_of_eq g127.symm))) nin0))) (A132) l127 (by decide) (by decide) (by decide) rfl (by decide) rfl ?_
  intro T133 h133 L133 X133 e133 N133 K133 A133
  rw [show own_nx [(.int (own_up (0 : Int32) d1)), (.int (own_up (0 : Int32) d2)), (.int (own_up (0 : Int32) d3)), (.int (own_up (0 : Int32) d4)), (.int (0 : Int32)), (.int (0 : Int32))] (4 : Int32) (0 : Int32) d5 = [(.int (own_up (0 : Int32) d1)), (.int (own_up (0 : Int32) d2)), (.int (own_up (0 : Int32) d3)), (.int (own_up (0 : Int32) d4)), (.int (own_up (0 : Int32) d5)), (.int (0 : Int32))] from by simp only [own_nx, own_up]; split <;> rfl] at A133
  refine rm_turn hx hw hZ hby hml hown X133 e133 N133 a1 b127 aD aC vC (1 : Int32) (5 : Int32) (6 : Int32) (0 : Int32) d6 [(.int (own_up (0 : Int32) d1)), (.int (own_up (0 : Int32) d2)), (.int (own_up (0 : Int32) d3)), (.int (own_up (0 : Int32) d4)), (.int (own_up (0 : Int32) d5)), (.int (0 : Int32))] [(.int d0), (.int d1), (.int d2), (.int d3), (.int d4), (.int d5), (.int d6), (.int d7), (.int d8), (.int d9), (.int d10), (.int d11), (.int d12), (.int d13), (.int d14), (.int d15), (.int d16), (.int d17), (.int d18), (.int d19), (.int d20), (.int d21), (.int d22), (.int d23), (.int d24), (.int d25), (.int d26), (.int (0 : Int32)), (.int (0 : Int32)), (.int (0 : Int32)), (.int (0 : Int32)), (.int (0 : Int32)), (.int (0 : Int32)), (.int (0 : Int32)), (.int (0 : Int32)), (.int (0 : Int32))] (((((((O_0.ext E127).keep K129 (allS l127 all0)).keep K130 (allS l127 all0)).keep K131 (allS l127 all0)).keep K132 (allS l127 all0)).keep K133 (allS l127 all0))) S_C A_C hC (((((((E_1.ext E127).keep K129).keep K130).keep K131).keep K132).keep K133)) (((((((F_1.ext E127).keep K129 (ninS (Nat.ne_of_lt (Nat.lt_of_lt_of_le (E_1).lt (Nat.le_of_eq g127.symm))) nin0)).keep K130 (ninS (Nat.ne_of_lt (Nat.lt_of_lt_of_le (E_1).lt (Nat.le_of_eq g127.symm))) nin0)).keep K131 (ninS (Nat.ne_of_lt (Nat.lt_of_lt_of_le (E_1).lt (Nat.le_of_eq g127.symm))) nin0)).keep K132 (ninS (Nat.ne_of_lt (Nat.lt_of_lt_of_le (E_1).lt (Nat.le_of_eq g127.symm))) nin0)).keep K133 (ninS (Nat.ne_of_lt (Nat.lt_of_lt_of_le (E_1).lt (Nat.le_of_eq g127.symm))) nin0))) (((((((A_D.ext E127).keep K129 (ninS (Nat.ne_of_lt (Nat.lt_of_lt_of_le (A_D).lt (Nat.le_of_eq g127.symm))) nin0)).keep K130 (ninS (Nat.ne_of_lt (Nat.lt_of_lt_of_le (A_D).lt (Nat.le_of_eq g127.symm))) nin0)).keep K131 (ninS (Nat.ne_of_lt (Nat.lt_of_lt_of_le (A_D).lt (Nat.le_of_eq g127.symm))) nin0)).keep K132 (ninS (Nat.ne_of_lt (Nat.lt_of_lt_of_le (A_D).lt (Nat.le_of_eq g127.symm))) nin0)).keep K133 (ninS (Nat.ne_of_lt (Nat.lt_of_lt_of_le (A_D).lt (Nat.le_of_eq g127.symm))) nin0))) (A133) l127 (by decide) (by decide) (by decide) rfl (by decide) rfl ?_
  intro T134 h134 L134 X134 e134 N134 K134 A134
  rw [show own_nx [(.int (own_up (0 : Int32) d1)), (.int (own_up (0 : Int32) d2)), (.int (own_up (0 : Int32) d3)), (.int (own_up (0 : Int32) d4)), (.int (own_up (0 : Int32) d5)), (.int (0 : Int32))] (5 : Int32) (0 : Int32) d6 = [(.int (own_up (0 : Int32) d1)), (.int (own_up (0 : Int32) d2)), (.int (own_up (0 : Int32) d3)), (.int (own_up (0 : Int32) d4)), (.int (own_up (0 : Int32) d5)), (.int (own_up (0 : Int32) d6))] from by simp only [own_nx, own_up]; split <;> rfl] at A134
  show own_Go p.tables e below (T134.setTop (mkF m 19 #[.val (.ref a1), .val (.ref b127), .val (.int (1 : Int32)), .val (.int (6 : Int32))] [])) _
  refine own_iloadN X134 hx hby own_d7_19 (pc' := 20) rfl rfl ?_
  refine own_getS X134 hx hby own_d7_20 (pc' := 23) rfl hZ hown (host := "") (Or.inl (hw _ (List.mem_of_getElem? (i := 35) rfl))) Via.refl e134 (S_C.ext ((((((((O_0.ext E127).keep K129 (allS l127 all0)).keep K130 (allS l127 all0)).keep K131 (allS l127 all0)).keep K132 (allS l127 all0)).keep K133 (allS l127 all0)).keep K134 (allS l127 all0))).2) ?_
  intro T135 X135 e135
  refine own_len X135 hx hby own_d7_23 (pc' := 24) rfl hZ e135 (A_C.ext ((((((((O_0.ext E127).keep K129 (allS l127 all0)).keep K130 (allS l127 all0)).keep K131 (allS l127 all0)).keep K132 (allS l127 all0)).keep K133 (allS l127 all0)).keep K134 (allS l127 all0))).2) hC ?_
  refine own_icmpYes X135 hx hby own_d7_24 (pc' := 51) (by decide) (by decide) ?_
  refine own_iloadN X135 hx hby own_d7_51 (pc' := 52) rfl rfl ?_
  refine own_getS X135 hx hby own_d7_52 (pc' := 55) rfl hZ hown (host := "") (Or.inl (hw _ (List.mem_of_getElem? (i := 18) rfl))) Via.refl e135 (S_S.ext ((((((((O_0.ext E127).keep K129 (allS l127 all0)).keep K130 (allS l127 all0)).keep K131 (allS l127 all0)).keep K132 (allS l127 all0)).keep K133 (allS l127 all0)).keep K134 (allS l127 all0))).2) ?_
  intro T136 X136 e136
  refine own_iadd X136 hx hby own_d7_55 (pc' := 56) rfl (z := (10 : Int32)) (by decide) ?_
  refine own_istoreN X136 hx hby own_d7_56 (pc' := 57) rfl (Ls' := #[.val (.ref a1), .val (.ref b127), .val (.int (10 : Int32)), .val (.int (6 : Int32))]) rfl ?_
  refine own_goto X136 hx hby own_d7_57 (pc' := 9) (by decide) ?_
  refine own_iloadN X136 hx hby own_d7_9 (pc' := 10) rfl rfl ?_
  refine own_aloadN X136 hx hby own_d7_10 (pc' := 11) rfl rfl rfl ?_
  refine own_getF X136 hx hby own_d7_11 (pc' := 14) rfl hZ hown (host := "") (Or.inl (hw _ (List.mem_of_getElem? (i := 28) rfl))) Via.refl e136 (((((((F_2.ext E127).keep K129 (ninS (Nat.ne_of_lt (Nat.lt_of_lt_of_le (E_1).lt (Nat.le_of_eq g127.symm))) nin0)).keep K130 (ninS (Nat.ne_of_lt (Nat.lt_of_lt_of_le (E_1).lt (Nat.le_of_eq g127.symm))) nin0)).keep K131 (ninS (Nat.ne_of_lt (Nat.lt_of_lt_of_le (E_1).lt (Nat.le_of_eq g127.symm))) nin0)).keep K132 (ninS (Nat.ne_of_lt (Nat.lt_of_lt_of_le (E_1).lt (Nat.le_of_eq g127.symm))) nin0)).keep K133 (ninS (Nat.ne_of_lt (Nat.lt_of_lt_of_le (E_1).lt (Nat.le_of_eq g127.symm))) nin0)).keep K134 (ninS (Nat.ne_of_lt (Nat.lt_of_lt_of_le (E_1).lt (Nat.le_of_eq g127.symm))) nin0)) ?_
  intro T137 X137 e137
  refine own_icmpNo X137 hx hby own_d7_14 (pc' := 17) rfl (by decide) ?_
  refine own_iconst X137 hx hby own_d7_17 (pc' := 18) rfl (z := (0 : Int32)) (by decide) ?_
  refine own_istoreN X137 hx hby own_d7_18 (pc' := 19) rfl (Ls' := #[.val (.ref a1), .val (.ref b127), .val (.int (10 : Int32)), .val (.int (0 : Int32))]) rfl ?_
  refine rm_turn hx hw hZ hby hml hown X137 e137 N134 a1 b127 aD aC vC (10 : Int32) (0 : Int32) (1 : Int32) (own_up (0 : Int32) d1) d10 [(.int (own_up (0 : Int32) d1)), (.int (own_up (0 : Int32) d2)), (.int (own_up (0 : Int32) d3)), (.int (own_up (0 : Int32) d4)), (.int (own_up (0 : Int32) d5)), (.int (own_up (0 : Int32) d6))] [(.int d0), (.int d1), (.int d2), (.int d3), (.int d4), (.int d5), (.int d6), (.int d7), (.int d8), (.int d9), (.int d10), (.int d11), (.int d12), (.int d13), (.int d14), (.int d15), (.int d16), (.int d17), (.int d18), (.int d19), (.int d20), (.int d21), (.int d22), (.int d23), (.int d24), (.int d25), (.int d26), (.int (0 : Int32)), (.int (0 : Int32)), (.int (0 : Int32)), (.int (0 : Int32)), (.int (0 : Int32)), (.int (0 : Int32)), (.int (0 : Int32)), (.int (0 : Int32)), (.int (0 : Int32))] ((((((((O_0.ext E127).keep K129 (allS l127 all0)).keep K130 (allS l127 all0)).keep K131 (allS l127 all0)).keep K132 (allS l127 all0)).keep K133 (allS l127 all0)).keep K134 (allS l127 all0))) S_C A_C hC ((((((((E_1.ext E127).keep K129).keep K130).keep K131).keep K132).keep K133).keep K134)) ((((((((F_1.ext E127).keep K129 (ninS (Nat.ne_of_lt (Nat.lt_of_lt_of_le (E_1).lt (Nat.le_of_eq g127.symm))) nin0)).keep K130 (ninS (Nat.ne_of_lt (Nat.lt_of_lt_of_le (E_1).lt (Nat.le_of_eq g127.symm))) nin0)).keep K131 (ninS (Nat.ne_of_lt (Nat.lt_of_lt_of_le (E_1).lt (Nat.le_of_eq g127.symm))) nin0)).keep K132 (ninS (Nat.ne_of_lt (Nat.lt_of_lt_of_le (E_1).lt (Nat.le_of_eq g127.symm))) nin0)).keep K133 (ninS (Nat.ne_of_lt (Nat.lt_of_lt_of_le (E_1).lt (Nat.le_of_eq g127.symm))) nin0)).keep K134 (ninS (Nat.ne_of_lt (Nat.lt_of_lt_of_le (E_1).lt (Nat.le_of_eq g127.symm))) nin0))) ((((((((A_D.ext E127).keep K129 (ninS (Nat.ne_of_lt (Nat.lt_of_lt_of_le (A_D).lt (Nat.le_of_eq g127.symm))) nin0)).keep K130 (ninS (Nat.ne_of_lt (Nat.lt_of_lt_of_le (A_D).lt (Nat.le_of_eq g127.symm))) nin0)).keep K131 (ninS (Nat.ne_of_lt (Nat.lt_of_lt_of_le (A_D).lt (Nat.le_of_eq g127.symm))) nin0)).keep K132 (ninS (Nat.ne_of_lt (Nat.lt_of_lt_of_le (A_D).lt (Nat.le_of_eq g127.symm))) nin0)).keep K133 (ninS (Nat.ne_of_lt (Nat.lt_of_lt_of_le (A_D).lt (Nat.le_of_eq g127.symm))) nin0)).keep K134 (ninS (Nat.ne_of_lt (Nat.lt_of_lt_of_le (A_D).lt (Nat.le_of_eq g127.symm))) nin0))) (A134) l127 (by decide) (by decide) (by decide) rfl (by decide) rfl ?_
  intro T138 h138 L138 X138 e138 N138 K138 A138
  rw [show own_nx [(.int (own_up (0 : Int32) d1)), (.int (own_up (0 : Int32) d2)), (.int (own_up (0 : Int32) d3)), (.int (own_up (0 : Int32) d4)), (.int (own_up (0 : Int32) d5)), (.int (own_up (0 : Int32) d6))] (0 : Int32) (own_up (0 : Int32) d1) d10 = [(.int (own_up (own_up (0 : Int32) d1) d10)), (.int (own_up (0 : Int32) d2)), (.int (own_up (0 : Int32) d3)), (.int (own_up (0 : Int32) d4)), (.int (own_up (0 : Int32) d5)), (.int (own_up (0 : Int32) d6))] from by simp only [own_nx, own_up]; split <;> rfl] at A138
  refine rm_turn hx hw hZ hby hml hown X138 e138 N138 a1 b127 aD aC vC (10 : Int32) (1 : Int32) (2 : Int32) (own_up (0 : Int32) d2) d11 [(.int (own_up (own_up (0 : Int32) d1) d10)), (.int (own_up (0 : Int32) d2)), (.int (own_up (0 : Int32) d3)), (.int (own_up (0 : Int32) d4)), (.int (own_up (0 : Int32) d5)), (.int (own_up (0 : Int32) d6))] [(.int d0), (.int d1), (.int d2), (.int d3), (.int d4), (.int d5), (.int d6), (.int d7), (.int d8), (.int d9), (.int d10), (.int d11), (.int d12), (.int d13), (.int d14), (.int d15), (.int d16), (.int d17), (.int d18), (.int d19), (.int d20), (.int d21), (.int d22), (.int d23), (.int d24), (.int d25), (.int d26), (.int (0 : Int32)), (.int (0 : Int32)), (.int (0 : Int32)), (.int (0 : Int32)), (.int (0 : Int32)), (.int (0 : Int32)), (.int (0 : Int32)), (.int (0 : Int32)), (.int (0 : Int32))] (((((((((O_0.ext E127).keep K129 (allS l127 all0)).keep K130 (allS l127 all0)).keep K131 (allS l127 all0)).keep K132 (allS l127 all0)).keep K133 (allS l127 all0)).keep K134 (allS l127 all0)).keep K138 (allS l127 all0))) S_C A_C hC (((((((((E_1.ext E127).keep K129).keep K130).keep K131).keep K132).keep K133).keep K134).keep K138)) (((((((((F_1.ext E127).keep K129 (ninS (Nat.ne_of_lt (Nat.lt_of_lt_of_le (E_1).lt (Nat.le_of_eq g127.symm))) nin0)).keep K130 (ninS (Nat.ne_of_lt (Nat.lt_of_lt_of_le (E_1).lt (Nat.le_of_eq g127.symm))) nin0)).keep K131 (ninS (Nat.ne_of_lt (Nat.lt_of_lt_of_le (E_1).lt (Nat.le_of_eq g127.symm))) nin0)).keep K132 (ninS (Nat.ne_of_lt (Nat.lt_of_lt_of_le (E_1).lt (Nat.le_of_eq g127.symm))) nin0)).keep K133 (ninS (Nat.ne_of_lt (Nat.lt_of_lt_of_le (E_1).lt (Nat.le_of_eq g127.symm))) nin0)).keep K134 (ninS (Nat.ne_of_lt (Nat.lt_of_lt_of_le (E_1).lt (Nat.le_of_eq g127.symm))) nin0)).keep K138 (ninS (Nat.ne_of_lt (Nat.lt_of_lt_of_le (E_1).lt (Nat.le_of_eq g127.symm))) nin0))) (((((((((A_D.ext E127).keep K129 (ninS (Nat.ne_of_lt (Nat.lt_of_lt_of_le (A_D).lt (Nat.le_of_eq g127.symm))) nin0)).keep K130 (ninS (Nat.ne_of_lt (Nat.lt_of_lt_of_le (A_D).lt (Nat.le_of_eq g127.symm))) nin0)).keep K131 (ninS (Nat.ne_of_lt (Nat.lt_of_lt_of_le (A_D).lt (Nat.le_of_eq g127.symm))) nin0)).keep K132 (ninS (Nat.ne_of_lt (Nat.lt_of_lt_of_le (A_D).lt (Nat.le_of_eq g127.symm))) nin0)).keep K133 (ninS (Nat.ne_of_lt (Nat.lt_of_lt_of_le (A_D).lt (Nat.le_of_eq g127.symm))) nin0)).keep K134 (ninS (Nat.ne_of_lt (Nat.lt_of_lt_of_le (A_D).lt (Nat.le_of_eq g127.symm))) nin0)).keep K138 (ninS (Nat.ne_of_lt (Nat.lt_of_lt_of_le (A_D).lt (Nat.le_of_eq g127.symm))) nin0))) (A138) l127 (by decide) (by decide) (by decide) rfl (by decide) rfl ?_
  intro T139 h139 L139 X139 e139 N139 K139 A139
  rw [show own_nx [(.int (own_up (own_up (0 : Int32) d1) d10)), (.int (own_up (0 : Int32) d2)), (.int (own_up (0 : Int32) d3)), (.int (own_up (0 : Int32) d4)), (.int (own_up (0 : Int32) d5)), (.int (own_up (0 : Int32) d6))] (1 : Int32) (own_up (0 : Int32) d2) d11 = [(.int (own_up (own_up (0 : Int32) d1) d10)), (.int (own_up (own_up (0 : Int32) d2) d11)), (.int (own_up (0 : Int32) d3)), (.int (own_up (0 : Int32) d4)), (.int (own_up (0 : Int32) d5)), (.int (own_up (0 : Int32) d6))] from by simp only [own_nx, own_up]; split <;> rfl] at A139
  refine rm_turn hx hw hZ hby hml hown X139 e139 N139 a1 b127 aD aC vC (10 : Int32) (2 : Int32) (3 : Int32) (own_up (0 : Int32) d3) d12 [(.int (own_up (own_up (0 : Int32) d1) d10)), (.int (own_up (own_up (0 : Int32) d2) d11)), (.int (own_up (0 : Int32) d3)), (.int (own_up (0 : Int32) d4)), (.int (own_up (0 : Int32) d5)), (.int (own_up (0 : Int32) d6))] [(.int d0), (.int d1), (.int d2), (.int d3), (.int d4), (.int d5), (.int d6), (.int d7), (.int d8), (.int d9), (.int d10), (.int d11), (.int d12), (.int d13), (.int d14), (.int d15), (.int d16), (.int d17), (.int d18), (.int d19), (.int d20), (.int d21), (.int d22), (.int d23), (.int d24), (.int d25), (.int d26), (.int (0 : Int32)), (.int (0 : Int32)), (.int (0 : Int32)), (.int (0 : Int32)), (.int (0 : Int32)), (.int (0 : Int32)), (.int (0 : Int32)), (.int (0 : Int32)), (.int (0 : Int32))] ((((((((((O_0.ext E127).keep K129 (allS l127 all0)).keep K130 (allS l127 all0)).keep K131 (allS l127 all0)).keep K132 (allS l127 all0)).keep K133 (allS l127 all0)).keep K134 (allS l127 all0)).keep K138 (allS l127 all0)).keep K139 (allS l127 all0))) S_C A_C hC ((((((((((E_1.ext E127).keep K129).keep K130).keep K131).keep K132).keep K133).keep K134).keep K138).keep K139)) ((((((((((F_1.ext E127).keep K129 (ninS (Nat.ne_of_lt (Nat.lt_of_lt_of_le (E_1).lt (Nat.le_of_eq g127.symm))) nin0)).keep K130 (ninS (Nat.ne_of_lt (Nat.lt_of_lt_of_le (E_1).lt (Nat.le_of_eq g127.symm))) nin0)).keep K131 (ninS (Nat.ne_of_lt (Nat.lt_of_lt_of_le (E_1).lt (Nat.le_of_eq g127.symm))) nin0)).keep K132 (ninS (Nat.ne_of_lt (Nat.lt_of_lt_of_le (E_1).lt (Nat.le_of_eq g127.symm))) nin0)).keep K133 (ninS (Nat.ne_of_lt (Nat.lt_of_lt_of_le (E_1).lt (Nat.le_of_eq g127.symm))) nin0)).keep K134 (ninS (Nat.ne_of_lt (Nat.lt_of_lt_of_le (E_1).lt (Nat.le_of_eq g127.symm))) nin0)).keep K138 (ninS (Nat.ne_of_lt (Nat.lt_of_lt_of_le (E_1).lt (Nat.le_of_eq g127.symm))) nin0)).keep K139 (ninS (Nat.ne_of_lt (Nat.lt_of_lt_of_le (E_1).lt (Nat.le_of_eq g127.symm))) nin0))) ((((((((((A_D.ext E127).keep K129 (ninS (Nat.ne_of_lt (Nat.lt_of_lt_of_le (A_D).lt (Nat.le_of_eq g127.symm))) nin0)).keep K130 (ninS (Nat.ne_of_lt (Nat.lt_of_lt_of_le (A_D).lt (Nat.le_of_eq g127.symm))) nin0)).keep K131 (ninS (Nat.ne_of_lt (Nat.lt_of_lt_of_le (A_D).lt (Nat.le_of_eq g127.symm))) nin0)).keep K132 (ninS (Nat.ne_of_lt (Nat.lt_of_lt_of_le (A_D).lt (Nat.le_of_eq g127.symm))) nin0)).keep K133 (ninS (Nat.ne_of_lt (Nat.lt_of_lt_of_le (A_D).lt (Nat.le_of_eq g127.symm))) nin0)).keep K134 (ninS (Nat.ne_of_lt (Nat.lt_of_lt_of_le (A_D).lt (Nat.le_of_eq g127.symm))) nin0)).keep K138 (ninS (Nat.ne_of_lt (Nat.lt_of_lt_of_le (A_D).lt (Nat.le_of_eq g127.symm))) nin0)).keep K139 (ninS (Nat.ne_of_lt (Nat.lt_of_lt_of_le (A_D).lt (Nat.le_of_eq g127.symm))) nin0))) (A139) l127 (by decide) (by decide) (by decide) rfl (by decide) rfl ?_
  intro T140 h140 L140 X140 e140 N140 K140 A140
  rw [show own_nx [(.int (own_up (own_up (0 : Int32) d1) d10)), (.int (own_up (own_up (0 : Int32) d2) d11)), (.int (own_up (0 : Int32) d3)), (.int (own_up (0 : Int32) d4)), (.int (own_up (0 : Int32) d5)), (.int (own_up (0 : Int32) d6))] (2 : Int32) (own_up (0 : Int32) d3) d12 = [(.int (own_up (own_up (0 : Int32) d1) d10)), (.int (own_up (own_up (0 : Int32) d2) d11)), (.int (own_up (own_up (0 : Int32) d3) d12)), (.int (own_up (0 : Int32) d4)), (.int (own_up (0 : Int32) d5)), (.int (own_up (0 : Int32) d6))] from by simp only [own_nx, own_up]; split <;> rfl] at A140
  refine rm_turn hx hw hZ hby hml hown X140 e140 N140 a1 b127 aD aC vC (10 : Int32) (3 : Int32) (4 : Int32) (own_up (0 : Int32) d4) d13 [(.int (own_up (own_up (0 : Int32) d1) d10)), (.int (own_up (own_up (0 : Int32) d2) d11)), (.int (own_up (own_up (0 : Int32) d3) d12)), (.int (own_up (0 : Int32) d4)), (.int (own_up (0 : Int32) d5)), (.int (own_up (0 : Int32) d6))] [(.int d0), (.int d1), (.int d2), (.int d3), (.int d4), (.int d5), (.int d6), (.int d7), (.int d8), (.int d9), (.int d10), (.int d11), (.int d12), (.int d13), (.int d14), (.int d15), (.int d16), (.int d17), (.int d18), (.int d19), (.int d20), (.int d21), (.int d22), (.int d23), (.int d24), (.int d25), (.int d26), (.int (0 : Int32)), (.int (0 : Int32)), (.int (0 : Int32)), (.int (0 : Int32)), (.int (0 : Int32)), (.int (0 : Int32)), (.int (0 : Int32)), (.int (0 : Int32)), (.int (0 : Int32))] (((((((((((O_0.ext E127).keep K129 (allS l127 all0)).keep K130 (allS l127 all0)).keep K131 (allS l127 all0)).keep K132 (allS l127 all0)).keep K133 (allS l127 all0)).keep K134 (allS l127 all0)).keep K138 (allS l127 all0)).keep K139 (allS l127 all0)).keep K140 (allS l127 all0))) S_C A_C hC (((((((((((E_1.ext E127).keep K129).keep K130).keep K131).keep K132).keep K133).keep K134).keep K138).keep K139).keep K140)) (((((((((((F_1.ext E127).keep K129 (ninS (Nat.ne_of_lt (Nat.lt_of_lt_of_le (E_1).lt (Nat.le_of_eq g127.symm))) nin0)).keep K130 (ninS (Nat.ne_of_lt (Nat.lt_of_lt_of_le (E_1).lt (Nat.le_of_eq g127.symm))) nin0)).keep K131 (ninS (Nat.ne_of_lt (Nat.lt_of_lt_of_le (E_1).lt (Nat.le_of_eq g127.symm))) nin0)).keep K132 (ninS (Nat.ne_of_lt (Nat.lt_of_lt_of_le (E_1).lt (Nat.le_of_eq g127.symm))) nin0)).keep K133 (ninS (Nat.ne_of_lt (Nat.lt_of_lt_of_le (E_1).lt (Nat.le_of_eq g127.symm))) nin0)).keep K134 (ninS (Nat.ne_of_lt (Nat.lt_of_lt_of_le (E_1).lt (Nat.le_of_eq g127.symm))) nin0)).keep K138 (ninS (Nat.ne_of_lt (Nat.lt_of_lt_of_le (E_1).lt (Nat.le_of_eq g127.symm))) nin0)).keep K139 (ninS (Nat.ne_of_lt (Nat.lt_of_lt_of_le (E_1).lt (Nat.le_of_eq g127.symm))) nin0)).keep K140 (ninS (Nat.ne_of_lt (Nat.lt_of_lt_of_le (E_1).lt (Nat.le_of_eq g127.symm))) nin0))) (((((((((((A_D.ext E127).keep K129 (ninS (Nat.ne_of_lt (Nat.lt_of_lt_of_le (A_D).lt (Nat.le_of_eq g127.symm))) nin0)).keep K130 (ninS (Nat.ne_of_lt (Nat.lt_of_lt_of_le (A_D).lt (Nat.le_of_eq g127.symm))) nin0)).keep K131 (ninS (Nat.ne_of_lt (Nat.lt_of_lt_of_le (A_D).lt (Nat.le_of_eq g127.symm))) nin0)).keep K132 (ninS (Nat.ne_of_lt (Nat.lt_of_lt_of_le (A_D).lt (Nat.le_of_eq g127.symm))) nin0)).keep K133 (ninS (Nat.ne_of_lt (Nat.lt_of_lt_of_le (A_D).lt (Nat.le_of_eq g127.symm))) nin0)).keep K134 (ninS (Nat.ne_of_lt (Nat.lt_of_lt_of_le (A_D).lt (Nat.le_of_eq g127.symm))) nin0)).keep K138 (ninS (Nat.ne_of_lt (Nat.lt_of_lt_of_le (A_D).lt (Nat.le_of_eq g127.symm))) nin0)).keep K139 (ninS (Nat.ne_of_lt (Nat.lt_of_lt_of_le (A_D).lt (Nat.le_of_eq g127.symm))) nin0)).keep K140 (ninS (Nat.ne_of_lt (Nat.lt_of_lt_of_le (A_D).lt (Nat.le_of_eq g127.symm))) nin0))) (A140) l127 (by decide) (by decide) (by decide) rfl (by decide) rfl ?_
  intro T141 h141 L141 X141 e141 N141 K141 A141
  rw [show own_nx [(.int (own_up (own_up (0 : Int32) d1) d10)), (.int (own_up (own_up (0 : Int32) d2) d11)), (.int (own_up (own_up (0 : Int32) d3) d12)), (.int (own_up (0 : Int32) d4)), (.int (own_up (0 : Int32) d5)), (.int (own_up (0 : Int32) d6))] (3 : Int32) (own_up (0 : Int32) d4) d13 = [(.int (own_up (own_up (0 : Int32) d1) d10)), (.int (own_up (own_up (0 : Int32) d2) d11)), (.int (own_up (own_up (0 : Int32) d3) d12)), (.int (own_up (own_up (0 : Int32) d4) d13)), (.int (own_up (0 : Int32) d5)), (.int (own_up (0 : Int32) d6))] from by simp only [own_nx, own_up]; split <;> rfl] at A141
  refine rm_turn hx hw hZ hby hml hown X141 e141 N141 a1 b127 aD aC vC (10 : Int32) (4 : Int32) (5 : Int32) (own_up (0 : Int32) d5) d14 [(.int (own_up (own_up (0 : Int32) d1) d10)), (.int (own_up (own_up (0 : Int32) d2) d11)), (.int (own_up (own_up (0 : Int32) d3) d12)), (.int (own_up (own_up (0 : Int32) d4) d13)), (.int (own_up (0 : Int32) d5)), (.int (own_up (0 : Int32) d6))] [(.int d0), (.int d1), (.int d2), (.int d3), (.int d4), (.int d5), (.int d6), (.int d7), (.int d8), (.int d9), (.int d10), (.int d11), (.int d12), (.int d13), (.int d14), (.int d15), (.int d16), (.int d17), (.int d18), (.int d19), (.int d20), (.int d21), (.int d22), (.int d23), (.int d24), (.int d25), (.int d26), (.int (0 : Int32)), (.int (0 : Int32)), (.int (0 : Int32)), (.int (0 : Int32)), (.int (0 : Int32)), (.int (0 : Int32)), (.int (0 : Int32)), (.int (0 : Int32)), (.int (0 : Int32))] ((((((((((((O_0.ext E127).keep K129 (allS l127 all0)).keep K130 (allS l127 all0)).keep K131 (allS l127 all0)).keep K132 (allS l127 all0)).keep K133 (allS l127 all0)).keep K134 (allS l127 all0)).keep K138 (allS l127 all0)).keep K139 (allS l127 all0)).keep K140 (allS l127 all0)).keep K141 (allS l127 all0))) S_C A_C hC ((((((((((((E_1.ext E127).keep K129).keep K130).keep K131).keep K132).keep K133).keep K134).keep K138).keep K139).keep K140).keep K141)) ((((((((((((F_1.ext E127).keep K129 (ninS (Nat.ne_of_lt (Nat.lt_of_lt_of_le (E_1).lt (Nat.le_of_eq g127.symm))) nin0)).keep K130 (ninS (Nat.ne_of_lt (Nat.lt_of_lt_of_le (E_1).lt (Nat.le_of_eq g127.symm))) nin0)).keep K131 (ninS (Nat.ne_of_lt (Nat.lt_of_lt_of_le (E_1).lt (Nat.le_of_eq g127.symm))) nin0)).keep K132 (ninS (Nat.ne_of_lt (Nat.lt_of_lt_of_le (E_1).lt (Nat.le_of_eq g127.symm))) nin0)).keep K133 (ninS (Nat.ne_of_lt (Nat.lt_of_lt_of_le (E_1).lt (Nat.le_of_eq g127.symm))) nin0)).keep K134 (ninS (Nat.ne_of_lt (Nat.lt_of_lt_of_le (E_1).lt (Nat.le_of_eq g127.symm))) nin0)).keep K138 (ninS (Nat.ne_of_lt (Nat.lt_of_lt_of_le (E_1).lt (Nat.le_of_eq g127.symm))) nin0)).keep K139 (ninS (Nat.ne_of_lt (Nat.lt_of_lt_of_le (E_1).lt (Nat.le_of_eq g127.symm))) nin0)).keep K140 (ninS (Nat.ne_of_lt (Nat.lt_of_lt_of_le (E_1).lt (Nat.le_of_eq g127.symm))) nin0)).keep K141 (ninS (Nat.ne_of_lt (Nat.lt_of_lt_of_le (E_1).lt (Nat.le_of_eq g127.symm))) nin0))) ((((((((((((A_D.ext E127).keep K129 (ninS (Nat.ne_of_lt (Nat.lt_of_lt_of_le (A_D).lt (Nat.le_of_eq g127.symm))) nin0)).keep K130 (ninS (Nat.ne_of_lt (Nat.lt_of_lt_of_le (A_D).lt (Nat.le_of_eq g127.symm))) nin0)).keep K131 (ninS (Nat.ne_of_lt (Nat.lt_of_lt_of_le (A_D).lt (Nat.le_of_eq g127.symm))) nin0)).keep K132 (ninS (Nat.ne_of_lt (Nat.lt_of_lt_of_le (A_D).lt (Nat.le_of_eq g127.symm))) nin0)).keep K133 (ninS (Nat.ne_of_lt (Nat.lt_of_lt_of_le (A_D).lt (Nat.le_of_eq g127.symm))) nin0)).keep K134 (ninS (Nat.ne_of_lt (Nat.lt_of_lt_of_le (A_D).lt (Nat.le_of_eq g127.symm))) nin0)).keep K138 (ninS (Nat.ne_of_lt (Nat.lt_of_lt_of_le (A_D).lt (Nat.le_of_eq g127.symm))) nin0)).keep K139 (ninS (Nat.ne_of_lt (Nat.lt_of_lt_of_le (A_D).lt (Nat.le_of_eq g127.symm))) nin0)).keep K140 (ninS (Nat.ne_of_lt (Nat.lt_of_lt_of_le (A_D).lt (Nat.le_of_eq g127.symm))) nin0)).keep K141 (ninS (Nat.ne_of_lt (Nat.lt_of_lt_of_le (A_D).lt (Nat.le_of_eq g127.symm))) nin0))) (A141) l127 (by decide) (by decide) (by decide) rfl (by decide) rfl ?_
  intro T142 h142 L142 X142 e142 N142 K142 A142
  rw [show own_nx [(.int (own_up (own_up (0 : Int32) d1) d10)), (.int (own_up (own_up (0 : Int32) d2) d11)), (.int (own_up (own_up (0 : Int32) d3) d12)), (.int (own_up (own_up (0 : Int32) d4) d13)), (.int (own_up (0 : Int32) d5)), (.int (own_up (0 : Int32) d6))] (4 : Int32) (own_up (0 : Int32) d5) d14 = [(.int (own_up (own_up (0 : Int32) d1) d10)), (.int (own_up (own_up (0 : Int32) d2) d11)), (.int (own_up (own_up (0 : Int32) d3) d12)), (.int (own_up (own_up (0 : Int32) d4) d13)), (.int (own_up (own_up (0 : Int32) d5) d14)), (.int (own_up (0 : Int32) d6))] from by simp only [own_nx, own_up]; split <;> rfl] at A142
  refine rm_turn hx hw hZ hby hml hown X142 e142 N142 a1 b127 aD aC vC (10 : Int32) (5 : Int32) (6 : Int32) (own_up (0 : Int32) d6) d15 [(.int (own_up (own_up (0 : Int32) d1) d10)), (.int (own_up (own_up (0 : Int32) d2) d11)), (.int (own_up (own_up (0 : Int32) d3) d12)), (.int (own_up (own_up (0 : Int32) d4) d13)), (.int (own_up (own_up (0 : Int32) d5) d14)), (.int (own_up (0 : Int32) d6))] [(.int d0), (.int d1), (.int d2), (.int d3), (.int d4), (.int d5), (.int d6), (.int d7), (.int d8), (.int d9), (.int d10), (.int d11), (.int d12), (.int d13), (.int d14), (.int d15), (.int d16), (.int d17), (.int d18), (.int d19), (.int d20), (.int d21), (.int d22), (.int d23), (.int d24), (.int d25), (.int d26), (.int (0 : Int32)), (.int (0 : Int32)), (.int (0 : Int32)), (.int (0 : Int32)), (.int (0 : Int32)), (.int (0 : Int32)), (.int (0 : Int32)), (.int (0 : Int32)), (.int (0 : Int32))] (((((((((((((O_0.ext E127).keep K129 (allS l127 all0)).keep K130 (allS l127 all0)).keep K131 (allS l127 all0)).keep K132 (allS l127 all0)).keep K133 (allS l127 all0)).keep K134 (allS l127 all0)).keep K138 (allS l127 all0)).keep K139 (allS l127 all0)).keep K140 (allS l127 all0)).keep K141 (allS l127 all0)).keep K142 (allS l127 all0))) S_C A_C hC (((((((((((((E_1.ext E127).keep K129).keep K130).keep K131).keep K132).keep K133).keep K134).keep K138).keep K139).keep K140).keep K141).keep K142)) (((((((((((((F_1.ext E127).keep K129 (ninS (Nat.ne_of_lt (Nat.lt_of_lt_of_le (E_1).lt (Nat.le_of_eq g127.symm))) nin0)).keep K130 (ninS (Nat.ne_of_lt (Nat.lt_of_lt_of_le (E_1).lt (Nat.le_of_eq g127.symm))) nin0)).keep K131 (ninS (Nat.ne_of_lt (Nat.lt_of_lt_of_le (E_1).lt (Nat.le_of_eq g127.symm))) nin0)).keep K132 (ninS (Nat.ne_of_lt (Nat.lt_of_lt_of_le (E_1).lt (Nat.le_of_eq g127.symm))) nin0)).keep K133 (ninS (Nat.ne_of_lt (Nat.lt_of_lt_of_le (E_1).lt (Nat.le_of_eq g127.symm))) nin0)).keep K134 (ninS (Nat.ne_of_lt (Nat.lt_of_lt_of_le (E_1).lt (Nat.le_of_eq g127.symm))) nin0)).keep K138 (ninS (Nat.ne_of_lt (Nat.lt_of_lt_of_le (E_1).lt (Nat.le_of_eq g127.symm))) nin0)).keep K139 (ninS (Nat.ne_of_lt (Nat.lt_of_lt_of_le (E_1).lt (Nat.le_of_eq g127.symm))) nin0)).keep K140 (ninS (Nat.ne_of_lt (Nat.lt_of_lt_of_le (E_1).lt (Nat.le_of_eq g127.symm))) nin0)).keep K141 (ninS (Nat.ne_of_lt (Nat.lt_of_lt_of_le (E_1).lt (Nat.le_of_eq g127.symm))) nin0)).keep K142 (ninS (Nat.ne_of_lt (Nat.lt_of_lt_of_le (E_1).lt (Nat.le_of_eq g127.symm))) nin0))) (((((((((((((A_D.ext E127).keep K129 (ninS (Nat.ne_of_lt (Nat.lt_of_lt_of_le (A_D).lt (Nat.le_of_eq g127.symm))) nin0)).keep K130 (ninS (Nat.ne_of_lt (Nat.lt_of_lt_of_le (A_D).lt (Nat.le_of_eq g127.symm))) nin0)).keep K131 (ninS (Nat.ne_of_lt (Nat.lt_of_lt_of_le (A_D).lt (Nat.le_of_eq g127.symm))) nin0)).keep K132 (ninS (Nat.ne_of_lt (Nat.lt_of_lt_of_le (A_D).lt (Nat.le_of_eq g127.symm))) nin0)).keep K133 (ninS (Nat.ne_of_lt (Nat.lt_of_lt_of_le (A_D).lt (Nat.le_of_eq g127.symm))) nin0)).keep K134 (ninS (Nat.ne_of_lt (Nat.lt_of_lt_of_le (A_D).lt (Nat.le_of_eq g127.symm))) nin0)).keep K138 (ninS (Nat.ne_of_lt (Nat.lt_of_lt_of_le (A_D).lt (Nat.le_of_eq g127.symm))) nin0)).keep K139 (ninS (Nat.ne_of_lt (Nat.lt_of_lt_of_le (A_D).lt (Nat.le_of_eq g127.symm))) nin0)).keep K140 (ninS (Nat.ne_of_lt (Nat.lt_of_lt_of_le (A_D).lt (Nat.le_of_eq g127.symm))) nin0)).keep K141 (ninS (Nat.ne_of_lt (Nat.lt_of_lt_of_le (A_D).lt (Nat.le_of_eq g127.symm))) nin0)).keep K142 (ninS (Nat.ne_of_lt (Nat.lt_of_lt_of_le (A_D).lt (Nat.le_of_eq g127.symm))) nin0))) (A142) l127 (by decide) (by decide) (by decide) rfl (by decide) rfl ?_
  intro T143 h143 L143 X143 e143 N143 K143 A143
  rw [show own_nx [(.int (own_up (own_up (0 : Int32) d1) d10)), (.int (own_up (own_up (0 : Int32) d2) d11)), (.int (own_up (own_up (0 : Int32) d3) d12)), (.int (own_up (own_up (0 : Int32) d4) d13)), (.int (own_up (own_up (0 : Int32) d5) d14)), (.int (own_up (0 : Int32) d6))] (5 : Int32) (own_up (0 : Int32) d6) d15 = [(.int (own_up (own_up (0 : Int32) d1) d10)), (.int (own_up (own_up (0 : Int32) d2) d11)), (.int (own_up (own_up (0 : Int32) d3) d12)), (.int (own_up (own_up (0 : Int32) d4) d13)), (.int (own_up (own_up (0 : Int32) d5) d14)), (.int (own_up (own_up (0 : Int32) d6) d15))] from by simp only [own_nx, own_up]; split <;> rfl] at A143
  show own_Go p.tables e below (T143.setTop (mkF m 19 #[.val (.ref a1), .val (.ref b127), .val (.int (10 : Int32)), .val (.int (6 : Int32))] [])) _
  refine own_iloadN X143 hx hby own_d7_19 (pc' := 20) rfl rfl ?_
  refine own_getS X143 hx hby own_d7_20 (pc' := 23) rfl hZ hown (host := "") (Or.inl (hw _ (List.mem_of_getElem? (i := 35) rfl))) Via.refl e143 (S_C.ext ((((((((((((((O_0.ext E127).keep K129 (allS l127 all0)).keep K130 (allS l127 all0)).keep K131 (allS l127 all0)).keep K132 (allS l127 all0)).keep K133 (allS l127 all0)).keep K134 (allS l127 all0)).keep K138 (allS l127 all0)).keep K139 (allS l127 all0)).keep K140 (allS l127 all0)).keep K141 (allS l127 all0)).keep K142 (allS l127 all0)).keep K143 (allS l127 all0))).2) ?_
  intro T144 X144 e144
  refine own_len X144 hx hby own_d7_23 (pc' := 24) rfl hZ e144 (A_C.ext ((((((((((((((O_0.ext E127).keep K129 (allS l127 all0)).keep K130 (allS l127 all0)).keep K131 (allS l127 all0)).keep K132 (allS l127 all0)).keep K133 (allS l127 all0)).keep K134 (allS l127 all0)).keep K138 (allS l127 all0)).keep K139 (allS l127 all0)).keep K140 (allS l127 all0)).keep K141 (allS l127 all0)).keep K142 (allS l127 all0)).keep K143 (allS l127 all0))).2) hC ?_
  refine own_icmpYes X144 hx hby own_d7_24 (pc' := 51) (by decide) (by decide) ?_
  refine own_iloadN X144 hx hby own_d7_51 (pc' := 52) rfl rfl ?_
  refine own_getS X144 hx hby own_d7_52 (pc' := 55) rfl hZ hown (host := "") (Or.inl (hw _ (List.mem_of_getElem? (i := 18) rfl))) Via.refl e144 (S_S.ext ((((((((((((((O_0.ext E127).keep K129 (allS l127 all0)).keep K130 (allS l127 all0)).keep K131 (allS l127 all0)).keep K132 (allS l127 all0)).keep K133 (allS l127 all0)).keep K134 (allS l127 all0)).keep K138 (allS l127 all0)).keep K139 (allS l127 all0)).keep K140 (allS l127 all0)).keep K141 (allS l127 all0)).keep K142 (allS l127 all0)).keep K143 (allS l127 all0))).2) ?_
  intro T145 X145 e145
  refine own_iadd X145 hx hby own_d7_55 (pc' := 56) rfl (z := (19 : Int32)) (by decide) ?_
  refine own_istoreN X145 hx hby own_d7_56 (pc' := 57) rfl (Ls' := #[.val (.ref a1), .val (.ref b127), .val (.int (19 : Int32)), .val (.int (6 : Int32))]) rfl ?_
  refine own_goto X145 hx hby own_d7_57 (pc' := 9) (by decide) ?_
  refine own_iloadN X145 hx hby own_d7_9 (pc' := 10) rfl rfl ?_
  refine own_aloadN X145 hx hby own_d7_10 (pc' := 11) rfl rfl rfl ?_
  refine own_getF X145 hx hby own_d7_11 (pc' := 14) rfl hZ hown (host := "") (Or.inl (hw _ (List.mem_of_getElem? (i := 28) rfl))) Via.refl e145 (((((((((((((F_2.ext E127).keep K129 (ninS (Nat.ne_of_lt (Nat.lt_of_lt_of_le (E_1).lt (Nat.le_of_eq g127.symm))) nin0)).keep K130 (ninS (Nat.ne_of_lt (Nat.lt_of_lt_of_le (E_1).lt (Nat.le_of_eq g127.symm))) nin0)).keep K131 (ninS (Nat.ne_of_lt (Nat.lt_of_lt_of_le (E_1).lt (Nat.le_of_eq g127.symm))) nin0)).keep K132 (ninS (Nat.ne_of_lt (Nat.lt_of_lt_of_le (E_1).lt (Nat.le_of_eq g127.symm))) nin0)).keep K133 (ninS (Nat.ne_of_lt (Nat.lt_of_lt_of_le (E_1).lt (Nat.le_of_eq g127.symm))) nin0)).keep K134 (ninS (Nat.ne_of_lt (Nat.lt_of_lt_of_le (E_1).lt (Nat.le_of_eq g127.symm))) nin0)).keep K138 (ninS (Nat.ne_of_lt (Nat.lt_of_lt_of_le (E_1).lt (Nat.le_of_eq g127.symm))) nin0)).keep K139 (ninS (Nat.ne_of_lt (Nat.lt_of_lt_of_le (E_1).lt (Nat.le_of_eq g127.symm))) nin0)).keep K140 (ninS (Nat.ne_of_lt (Nat.lt_of_lt_of_le (E_1).lt (Nat.le_of_eq g127.symm))) nin0)).keep K141 (ninS (Nat.ne_of_lt (Nat.lt_of_lt_of_le (E_1).lt (Nat.le_of_eq g127.symm))) nin0)).keep K142 (ninS (Nat.ne_of_lt (Nat.lt_of_lt_of_le (E_1).lt (Nat.le_of_eq g127.symm))) nin0)).keep K143 (ninS (Nat.ne_of_lt (Nat.lt_of_lt_of_le (E_1).lt (Nat.le_of_eq g127.symm))) nin0)) ?_
  intro T146 X146 e146
  refine own_icmpNo X146 hx hby own_d7_14 (pc' := 17) rfl (by decide) ?_
  refine own_iconst X146 hx hby own_d7_17 (pc' := 18) rfl (z := (0 : Int32)) (by decide) ?_
  refine own_istoreN X146 hx hby own_d7_18 (pc' := 19) rfl (Ls' := #[.val (.ref a1), .val (.ref b127), .val (.int (19 : Int32)), .val (.int (0 : Int32))]) rfl ?_
  refine rm_turn hx hw hZ hby hml hown X146 e146 N143 a1 b127 aD aC vC (19 : Int32) (0 : Int32) (1 : Int32) (own_up (own_up (0 : Int32) d1) d10) d19 [(.int (own_up (own_up (0 : Int32) d1) d10)), (.int (own_up (own_up (0 : Int32) d2) d11)), (.int (own_up (own_up (0 : Int32) d3) d12)), (.int (own_up (own_up (0 : Int32) d4) d13)), (.int (own_up (own_up (0 : Int32) d5) d14)), (.int (own_up (own_up (0 : Int32) d6) d15))] [(.int d0), (.int d1), (.int d2), (.int d3), (.int d4), (.int d5), (.int d6), (.int d7), (.int d8), (.int d9), (.int d10), (.int d11), (.int d12), (.int d13), (.int d14), (.int d15), (.int d16), (.int d17), (.int d18), (.int d19), (.int d20), (.int d21), (.int d22), (.int d23), (.int d24), (.int d25), (.int d26), (.int (0 : Int32)), (.int (0 : Int32)), (.int (0 : Int32)), (.int (0 : Int32)), (.int (0 : Int32)), (.int (0 : Int32)), (.int (0 : Int32)), (.int (0 : Int32)), (.int (0 : Int32))] ((((((((((((((O_0.ext E127).keep K129 (allS l127 all0)).keep K130 (allS l127 all0)).keep K131 (allS l127 all0)).keep K132 (allS l127 all0)).keep K133 (allS l127 all0)).keep K134 (allS l127 all0)).keep K138 (allS l127 all0)).keep K139 (allS l127 all0)).keep K140 (allS l127 all0)).keep K141 (allS l127 all0)).keep K142 (allS l127 all0)).keep K143 (allS l127 all0))) S_C A_C hC ((((((((((((((E_1.ext E127).keep K129).keep K130).keep K131).keep K132).keep K133).keep K134).keep K138).keep K139).keep K140).keep K141).keep K142).keep K143)) ((((((((((((((F_1.ext E127).keep K129 (ninS (Nat.ne_of_lt (Nat.lt_of_lt_of_le (E_1).lt (Nat.le_of_eq g127.symm))) nin0)).keep K130 (ninS (Nat.ne_of_lt (Nat.lt_of_lt_of_le (E_1).lt (Nat.le_of_eq g127.symm))) nin0)).keep K131 (ninS (Nat.ne_of_lt (Nat.lt_of_lt_of_le (E_1).lt (Nat.le_of_eq g127.symm))) nin0)).keep K132 (ninS (Nat.ne_of_lt (Nat.lt_of_lt_of_le (E_1).lt (Nat.le_of_eq g127.symm))) nin0)).keep K133 (ninS (Nat.ne_of_lt (Nat.lt_of_lt_of_le (E_1).lt (Nat.le_of_eq g127.symm))) nin0)).keep K134 (ninS (Nat.ne_of_lt (Nat.lt_of_lt_of_le (E_1).lt (Nat.le_of_eq g127.symm))) nin0)).keep K138 (ninS (Nat.ne_of_lt (Nat.lt_of_lt_of_le (E_1).lt (Nat.le_of_eq g127.symm))) nin0)).keep K139 (ninS (Nat.ne_of_lt (Nat.lt_of_lt_of_le (E_1).lt (Nat.le_of_eq g127.symm))) nin0)).keep K140 (ninS (Nat.ne_of_lt (Nat.lt_of_lt_of_le (E_1).lt (Nat.le_of_eq g127.symm))) nin0)).keep K141 (ninS (Nat.ne_of_lt (Nat.lt_of_lt_of_le (E_1).lt (Nat.le_of_eq g127.symm))) nin0)).keep K142 (ninS (Nat.ne_of_lt (Nat.lt_of_lt_of_le (E_1).lt (Nat.le_of_eq g127.symm))) nin0)).keep K143 (ninS (Nat.ne_of_lt (Nat.lt_of_lt_of_le (E_1).lt (Nat.le_of_eq g127.symm))) nin0))) ((((((((((((((A_D.ext E127).keep K129 (ninS (Nat.ne_of_lt (Nat.lt_of_lt_of_le (A_D).lt (Nat.le_of_eq g127.symm))) nin0)).keep K130 (ninS (Nat.ne_of_lt (Nat.lt_of_lt_of_le (A_D).lt (Nat.le_of_eq g127.symm))) nin0)).keep K131 (ninS (Nat.ne_of_lt (Nat.lt_of_lt_of_le (A_D).lt (Nat.le_of_eq g127.symm))) nin0)).keep K132 (ninS (Nat.ne_of_lt (Nat.lt_of_lt_of_le (A_D).lt (Nat.le_of_eq g127.symm))) nin0)).keep K133 (ninS (Nat.ne_of_lt (Nat.lt_of_lt_of_le (A_D).lt (Nat.le_of_eq g127.symm))) nin0)).keep K134 (ninS (Nat.ne_of_lt (Nat.lt_of_lt_of_le (A_D).lt (Nat.le_of_eq g127.symm))) nin0)).keep K138 (ninS (Nat.ne_of_lt (Nat.lt_of_lt_of_le (A_D).lt (Nat.le_of_eq g127.symm))) nin0)).keep K139 (ninS (Nat.ne_of_lt (Nat.lt_of_lt_of_le (A_D).lt (Nat.le_of_eq g127.symm))) nin0)).keep K140 (ninS (Nat.ne_of_lt (Nat.lt_of_lt_of_le (A_D).lt (Nat.le_of_eq g127.symm))) nin0)).keep K141 (ninS (Nat.ne_of_lt (Nat.lt_of_lt_of_le (A_D).lt (Nat.le_of_eq g127.symm))) nin0)).keep K142 (ninS (Nat.ne_of_lt (Nat.lt_of_lt_of_le (A_D).lt (Nat.le_of_eq g127.symm))) nin0)).keep K143 (ninS (Nat.ne_of_lt (Nat.lt_of_lt_of_le (A_D).lt (Nat.le_of_eq g127.symm))) nin0))) (A143) l127 (by decide) (by decide) (by decide) rfl (by decide) rfl ?_
  intro T147 h147 L147 X147 e147 N147 K147 A147
  rw [show own_nx [(.int (own_up (own_up (0 : Int32) d1) d10)), (.int (own_up (own_up (0 : Int32) d2) d11)), (.int (own_up (own_up (0 : Int32) d3) d12)), (.int (own_up (own_up (0 : Int32) d4) d13)), (.int (own_up (own_up (0 : Int32) d5) d14)), (.int (own_up (own_up (0 : Int32) d6) d15))] (0 : Int32) (own_up (own_up (0 : Int32) d1) d10) d19 = [(.int (own_up (own_up (own_up (0 : Int32) d1) d10) d19)), (.int (own_up (own_up (0 : Int32) d2) d11)), (.int (own_up (own_up (0 : Int32) d3) d12)), (.int (own_up (own_up (0 : Int32) d4) d13)), (.int (own_up (own_up (0 : Int32) d5) d14)), (.int (own_up (own_up (0 : Int32) d6) d15))] from by simp only [own_nx, own_up]; split <;> rfl] at A147
  refine rm_turn hx hw hZ hby hml hown X147 e147 N147 a1 b127 aD aC vC (19 : Int32) (1 : Int32) (2 : Int32) (own_up (own_up (0 : Int32) d2) d11) d20 [(.int (own_up (own_up (own_up (0 : Int32) d1) d10) d19)), (.int (own_up (own_up (0 : Int32) d2) d11)), (.int (own_up (own_up (0 : Int32) d3) d12)), (.int (own_up (own_up (0 : Int32) d4) d13)), (.int (own_up (own_up (0 : Int32) d5) d14)), (.int (own_up (own_up (0 : Int32) d6) d15))] [(.int d0), (.int d1), (.int d2), (.int d3), (.int d4), (.int d5), (.int d6), (.int d7), (.int d8), (.int d9), (.int d10), (.int d11), (.int d12), (.int d13), (.int d14), (.int d15), (.int d16), (.int d17), (.int d18), (.int d19), (.int d20), (.int d21), (.int d22), (.int d23), (.int d24), (.int d25), (.int d26), (.int (0 : Int32)), (.int (0 : Int32)), (.int (0 : Int32)), (.int (0 : Int32)), (.int (0 : Int32)), (.int (0 : Int32)), (.int (0 : Int32)), (.int (0 : Int32)), (.int (0 : Int32))] (((((((((((((((O_0.ext E127).keep K129 (allS l127 all0)).keep K130 (allS l127 all0)).keep K131 (allS l127 all0)).keep K132 (allS l127 all0)).keep K133 (allS l127 all0)).keep K134 (allS l127 all0)).keep K138 (allS l127 all0)).keep K139 (allS l127 all0)).keep K140 (allS l127 all0)).keep K141 (allS l127 all0)).keep K142 (allS l127 all0)).keep K143 (allS l127 all0)).keep K147 (allS l127 all0))) S_C A_C hC (((((((((((((((E_1.ext E127).keep K129).keep K130).keep K131).keep K132).keep K133).keep K134).keep K138).keep K139).keep K140).keep K141).keep K142).keep K143).keep K147)) (((((((((((((((F_1.ext E127).keep K129 (ninS (Nat.ne_of_lt (Nat.lt_of_lt_of_le (E_1).lt (Nat.le_of_eq g127.symm))) nin0)).keep K130 (ninS (Nat.ne_of_lt (Nat.lt_of_lt_of_le (E_1).lt (Nat.le_of_eq g127.symm))) nin0)).keep K131 (ninS (Nat.ne_of_lt (Nat.lt_of_lt_of_le (E_1).lt (Nat.le_of_eq g127.symm))) nin0)).keep K132 (ninS (Nat.ne_of_lt (Nat.lt_of_lt_of_le (E_1).lt (Nat.le_of_eq g127.symm))) nin0)).keep K133 (ninS (Nat.ne_of_lt (Nat.lt_of_lt_of_le (E_1).lt (Nat.le_of_eq g127.symm))) nin0)).keep K134 (ninS (Nat.ne_of_lt (Nat.lt_of_lt_of_le (E_1).lt (Nat.le_of_eq g127.symm))) nin0)).keep K138 (ninS (Nat.ne_of_lt (Nat.lt_of_lt_of_le (E_1).lt (Nat.le_of_eq g127.symm))) nin0)).keep K139 (ninS (Nat.ne_of_lt (Nat.lt_of_lt_of_le (E_1).lt (Nat.le_of_eq g127.symm))) nin0)).keep K140 (ninS (Nat.ne_of_lt (Nat.lt_of_lt_of_le (E_1).lt (Nat.le_of_eq g127.symm))) nin0)).keep K141 (ninS (Nat.ne_of_lt (Nat.lt_of_lt_of_le (E_1).lt (Nat.le_of_eq g127.symm))) nin0)).keep K142 (ninS (Nat.ne_of_lt (Nat.lt_of_lt_of_le (E_1).lt (Nat.le_of_eq g127.symm))) nin0)).keep K143 (ninS (Nat.ne_of_lt (Nat.lt_of_lt_of_le (E_1).lt (Nat.le_of_eq g127.symm))) nin0)).keep K147 (ninS (Nat.ne_of_lt (Nat.lt_of_lt_of_le (E_1).lt (Nat.le_of_eq g127.symm))) nin0))) (((((((((((((((A_D.ext E127).keep K129 (ninS (Nat.ne_of_lt (Nat.lt_of_lt_of_le (A_D).lt (Nat.le_of_eq g127.symm))) nin0)).keep K130 (ninS (Nat.ne_of_lt (Nat.lt_of_lt_of_le (A_D).lt (Nat.le_of_eq g127.symm))) nin0)).keep K131 (ninS (Nat.ne_of_lt (Nat.lt_of_lt_of_le (A_D).lt (Nat.le_of_eq g127.symm))) nin0)).keep K132 (ninS (Nat.ne_of_lt (Nat.lt_of_lt_of_le (A_D).lt (Nat.le_of_eq g127.symm))) nin0)).keep K133 (ninS (Nat.ne_of_lt (Nat.lt_of_lt_of_le (A_D).lt (Nat.le_of_eq g127.symm))) nin0)).keep K134 (ninS (Nat.ne_of_lt (Nat.lt_of_lt_of_le (A_D).lt (Nat.le_of_eq g127.symm))) nin0)).keep K138 (ninS (Nat.ne_of_lt (Nat.lt_of_lt_of_le (A_D).lt (Nat.le_of_eq g127.symm))) nin0)).keep K139 (ninS (Nat.ne_of_lt (Nat.lt_of_lt_of_le (A_D).lt (Nat.le_of_eq g127.symm))) nin0)).keep K140 (ninS (Nat.ne_of_lt (Nat.lt_of_lt_of_le (A_D).lt (Nat.le_of_eq g127.symm))) nin0)).keep K141 (ninS (Nat.ne_of_lt (Nat.lt_of_lt_of_le (A_D).lt (Nat.le_of_eq g127.symm))) nin0)).keep K142 (ninS (Nat.ne_of_lt (Nat.lt_of_lt_of_le (A_D).lt (Nat.le_of_eq g127.symm))) nin0)).keep K143 (ninS (Nat.ne_of_lt (Nat.lt_of_lt_of_le (A_D).lt (Nat.le_of_eq g127.symm))) nin0)).keep K147 (ninS (Nat.ne_of_lt (Nat.lt_of_lt_of_le (A_D).lt (Nat.le_of_eq g127.symm))) nin0))) (A147) l127 (by decide) (by decide) (by decide) rfl (by decide) rfl ?_
  intro T148 h148 L148 X148 e148 N148 K148 A148
  rw [show own_nx [(.int (own_up (own_up (own_up (0 : Int32) d1) d10) d19)), (.int (own_up (own_up (0 : Int32) d2) d11)), (.int (own_up (own_up (0 : Int32) d3) d12)), (.int (own_up (own_up (0 : Int32) d4) d13)), (.int (own_up (own_up (0 : Int32) d5) d14)), (.int (own_up (own_up (0 : Int32) d6) d15))] (1 : Int32) (own_up (own_up (0 : Int32) d2) d11) d20 = [(.int (own_up (own_up (own_up (0 : Int32) d1) d10) d19)), (.int (own_up (own_up (own_up (0 : Int32) d2) d11) d20)), (.int (own_up (own_up (0 : Int32) d3) d12)), (.int (own_up (own_up (0 : Int32) d4) d13)), (.int (own_up (own_up (0 : Int32) d5) d14)), (.int (own_up (own_up (0 : Int32) d6) d15))] from by simp only [own_nx, own_up]; split <;> rfl] at A148
  refine rm_turn hx hw hZ hby hml hown X148 e148 N148 a1 b127 aD aC vC (19 : Int32) (2 : Int32) (3 : Int32) (own_up (own_up (0 : Int32) d3) d12) d21 [(.int (own_up (own_up (own_up (0 : Int32) d1) d10) d19)), (.int (own_up (own_up (own_up (0 : Int32) d2) d11) d20)), (.int (own_up (own_up (0 : Int32) d3) d12)), (.int (own_up (own_up (0 : Int32) d4) d13)), (.int (own_up (own_up (0 : Int32) d5) d14)), (.int (own_up (own_up (0 : Int32) d6) d15))] [(.int d0), (.int d1), (.int d2), (.int d3), (.int d4), (.int d5), (.int d6), (.int d7), (.int d8), (.int d9), (.int d10), (.int d11), (.int d12), (.int d13), (.int d14), (.int d15), (.int d16), (.int d17), (.int d18), (.int d19), (.int d20), (.int d21), (.int d22), (.int d23), (.int d24), (.int d25), (.int d26), (.int (0 : Int32)), (.int (0 : Int32)), (.int (0 : Int32)), (.int (0 : Int32)), (.int (0 : Int32)), (.int (0 : Int32)), (.int (0 : Int32)), (.int (0 : Int32)), (.int (0 : Int32))] ((((((((((((((((O_0.ext E127).keep K129 (allS l127 all0)).keep K130 (allS l127 all0)).keep K131 (allS l127 all0)).keep K132 (allS l127 all0)).keep K133 (allS l127 all0)).keep K134 (allS l127 all0)).keep K138 (allS l127 all0)).keep K139 (allS l127 all0)).keep K140 (allS l127 all0)).keep K141 (allS l127 all0)).keep K142 (allS l127 all0)).keep K143 (allS l127 all0)).keep K147 (allS l127 all0)).keep K148 (allS l127 all0))) S_C A_C hC ((((((((((((((((E_1.ext E127).keep K129).keep K130).keep K131).keep K132).keep K133).keep K134).keep K138).keep K139).keep K140).keep K141).keep K142).keep K143).keep K147).keep K148)) ((((((((((((((((F_1.ext E127).keep K129 (ninS (Nat.ne_of_lt (Nat.lt_of_lt_of_le (E_1).lt (Nat.le_of_eq g127.symm))) nin0)).keep K130 (ninS (Nat.ne_of_lt (Nat.lt_of_lt_of_le (E_1).lt (Nat.le_of_eq g127.symm))) nin0)).keep K131 (ninS (Nat.ne_of_lt (Nat.lt_of_lt_of_le (E_1).lt (Nat.le_of_eq g127.symm))) nin0)).keep K132 (ninS (Nat.ne_of_lt (Nat.lt_of_lt_of_le (E_1).lt (Nat.le_of_eq g127.symm))) nin0)).keep K133 (ninS (Nat.ne_of_lt (Nat.lt_of_lt_of_le (E_1).lt (Nat.le_of_eq g127.symm))) nin0)).keep K134 (ninS (Nat.ne_of_lt (Nat.lt_of_lt_of_le (E_1).lt (Nat.le_of_eq g127.symm))) nin0)).keep K138 (ninS (Nat.ne_of_lt (Nat.lt_of_lt_of_le (E_1).lt (Nat.le_of_eq g127.symm))) nin0)).keep K139 (ninS (Nat.ne_of_lt (Nat.lt_of_lt_of_le (E_1).lt (Nat.le_of_eq g127.symm))) nin0)).keep K140 (ninS (Nat.ne_of_lt (Nat.lt_of_lt_of_le (E_1).lt (Nat.le_of_eq g127.symm))) nin0)).keep K141 (ninS (Nat.ne_of_lt (Nat.lt_of_lt_of_le (E_1).lt (Nat.le_of_eq g127.symm))) nin0)).keep K142 (ninS (Nat.ne_of_lt (Nat.lt_of_lt_of_le (E_1).lt (Nat.le_of_eq g127.symm))) nin0)).keep K143 (ninS (Nat.ne_of_lt (Nat.lt_of_lt_of_le (E_1).lt (Nat.le_of_eq g127.symm))) nin0)).keep K147 (ninS (Nat.ne_of_lt (Nat.lt_of_lt_of_le (E_1).lt (Nat.le_of_eq g127.symm))) nin0)).keep K148 (ninS (Nat.ne_of_lt (Nat.lt_of_lt_of_le (E_1).lt (Nat.le_of_eq g127.symm))) nin0))) ((((((((((((((((A_D.ext E127).keep K129 (ninS (Nat.ne_of_lt (Nat.lt_of_lt_of_le (A_D).lt (Nat.le_of_eq g127.symm))) nin0)).keep K130 (ninS (Nat.ne_of_lt (Nat.lt_of_lt_of_le (A_D).lt (Nat.le_of_eq g127.symm))) nin0)).keep K131 (ninS (Nat.ne_of_lt (Nat.lt_of_lt_of_le (A_D).lt (Nat.le_of_eq g127.symm))) nin0)).keep K132 (ninS (Nat.ne_of_lt (Nat.lt_of_lt_of_le (A_D).lt (Nat.le_of_eq g127.symm))) nin0)).keep K133 (ninS (Nat.ne_of_lt (Nat.lt_of_lt_of_le (A_D).lt (Nat.le_of_eq g127.symm))) nin0)).keep K134 (ninS (Nat.ne_of_lt (Nat.lt_of_lt_of_le (A_D).lt (Nat.le_of_eq g127.symm))) nin0)).keep K138 (ninS (Nat.ne_of_lt (Nat.lt_of_lt_of_le (A_D).lt (Nat.le_of_eq g127.symm))) nin0)).keep K139 (ninS (Nat.ne_of_lt (Nat.lt_of_lt_of_le (A_D).lt (Nat.le_of_eq g127.symm))) nin0)).keep K140 (ninS (Nat.ne_of_lt (Nat.lt_of_lt_of_le (A_D).lt (Nat.le_of_eq g127.symm))) nin0)).keep K141 (ninS (Nat.ne_of_lt (Nat.lt_of_lt_of_le (A_D).lt (Nat.le_of_eq g127.symm))) nin0)).keep K142 (ninS (Nat.ne_of_lt (Nat.lt_of_lt_of_le (A_D).lt (Nat.le_of_eq g127.symm))) nin0)).keep K143 (ninS (Nat.ne_of_lt (Nat.lt_of_lt_of_le (A_D).lt (Nat.le_of_eq g127.symm))) nin0)).keep K147 (ninS (Nat.ne_of_lt (Nat.lt_of_lt_of_le (A_D).lt (Nat.le_of_eq g127.symm))) nin0)).keep K148 (ninS (Nat.ne_of_lt (Nat.lt_of_lt_of_le (A_D).lt (Nat.le_of_eq g127.symm))) nin0))) (A148) l127 (by decide) (by decide) (by decide) rfl (by decide) rfl ?_
  intro T149 h149 L149 X149 e149 N149 K149 A149
  rw [show own_nx [(.int (own_up (own_up (own_up (0 : Int32) d1) d10) d19)), (.int (own_up (own_up (own_up (0 : Int32) d2) d11) d20)), (.int (own_up (own_up (0 : Int32) d3) d12)), (.int (own_up (own_up (0 : Int32) d4) d13)), (.int (own_up (own_up (0 : Int32) d5) d14)), (.int (own_up (own_up (0 : Int32) d6) d15))] (2 : Int32) (own_up (own_up (0 : Int32) d3) d12) d21 = [(.int (own_up (own_up (own_up (0 : Int32) d1) d10) d19)), (.int (own_up (own_up (own_up (0 : Int32) d2) d11) d20)), (.int (own_up (own_up (own_up (0 : Int32) d3) d12) d21)), (.int (own_up (own_up (0 : Int32) d4) d13)), (.int (own_up (own_up (0 : Int32) d5) d14)), (.int (own_up (own_up (0 : Int32) d6) d15))] from by simp only [own_nx, own_up]; split <;> rfl] at A149
  refine rm_turn hx hw hZ hby hml hown X149 e149 N149 a1 b127 aD aC vC (19 : Int32) (3 : Int32) (4 : Int32) (own_up (own_up (0 : Int32) d4) d13) d22 [(.int (own_up (own_up (own_up (0 : Int32) d1) d10) d19)), (.int (own_up (own_up (own_up (0 : Int32) d2) d11) d20)), (.int (own_up (own_up (own_up (0 : Int32) d3) d12) d21)), (.int (own_up (own_up (0 : Int32) d4) d13)), (.int (own_up (own_up (0 : Int32) d5) d14)), (.int (own_up (own_up (0 : Int32) d6) d15))] [(.int d0), (.int d1), (.int d2), (.int d3), (.int d4), (.int d5), (.int d6), (.int d7), (.int d8), (.int d9), (.int d10), (.int d11), (.int d12), (.int d13), (.int d14), (.int d15), (.int d16), (.int d17), (.int d18), (.int d19), (.int d20), (.int d21), (.int d22), (.int d23), (.int d24), (.int d25), (.int d26), (.int (0 : Int32)), (.int (0 : Int32)), (.int (0 : Int32)), (.int (0 : Int32)), (.int (0 : Int32)), (.int (0 : Int32)), (.int (0 : Int32)), (.int (0 : Int32)), (.int (0 : Int32))] (((((((((((((((((O_0.ext E127).keep K129 (allS l127 all0)).keep K130 (allS l127 all0)).keep K131 (allS l127 all0)).keep K132 (allS l127 all0)).keep K133 (allS l127 all0)).keep K134 (allS l127 all0)).keep K138 (allS l127 all0)).keep K139 (allS l127 all0)).keep K140 (allS l127 all0)).keep K141 (allS l127 all0)).keep K142 (allS l127 all0)).keep K143 (allS l127 all0)).keep K147 (allS l127 all0)).keep K148 (allS l127 all0)).keep K149 (allS l127 all0))) S_C A_C hC (((((((((((((((((E_1.ext E127).keep K129).keep K130).keep K131).keep K132).keep K133).keep K134).keep K138).keep K139).keep K140).keep K141).keep K142).keep K143).keep K147).keep K148).keep K149)) (((((((((((((((((F_1.ext E127).keep K129 (ninS (Nat.ne_of_lt (Nat.lt_of_lt_of_le (E_1).lt (Nat.le_of_eq g127.symm))) nin0)).keep K130 (ninS (Nat.ne_of_lt (Nat.lt_of_lt_of_le (E_1).lt (Nat.le_of_eq g127.symm))) nin0)).keep K131 (ninS (Nat.ne_of_lt (Nat.lt_of_lt_of_le (E_1).lt (Nat.le_of_eq g127.symm))) nin0)).keep K132 (ninS (Nat.ne_of_lt (Nat.lt_of_lt_of_le (E_1).lt (Nat.le_of_eq g127.symm))) nin0)).keep K133 (ninS (Nat.ne_of_lt (Nat.lt_of_lt_of_le (E_1).lt (Nat.le_of_eq g127.symm))) nin0)).keep K134 (ninS (Nat.ne_of_lt (Nat.lt_of_lt_of_le (E_1).lt (Nat.le_of_eq g127.symm))) nin0)).keep K138 (ninS (Nat.ne_of_lt (Nat.lt_of_lt_of_le (E_1).lt (Nat.le_of_eq g127.symm))) nin0)).keep K139 (ninS (Nat.ne_of_lt (Nat.lt_of_lt_of_le (E_1).lt (Nat.le_of_eq g127.symm))) nin0)).keep K140 (ninS (Nat.ne_of_lt (Nat.lt_of_lt_of_le (E_1).lt (Nat.le_of_eq g127.symm))) nin0)).keep K141 (ninS (Nat.ne_of_lt (Nat.lt_of_lt_of_le (E_1).lt (Nat.le_of_eq g127.symm))) nin0)).keep K142 (ninS (Nat.ne_of_lt (Nat.lt_of_lt_of_le (E_1).lt (Nat.le_of_eq g127.symm))) nin0)).keep K143 (ninS (Nat.ne_of_lt (Nat.lt_of_lt_of_le (E_1).lt (Nat.le_of_eq g127.symm))) nin0)).keep K147 (ninS (Nat.ne_of_lt (Nat.lt_of_lt_of_le (E_1).lt (Nat.le_of_eq g127.symm))) nin0)).keep K148 (ninS (Nat.ne_of_lt (Nat.lt_of_lt_of_le (E_1).lt (Nat.le_of_eq g127.symm))) nin0)).keep K149 (ninS (Nat.ne_of_lt (Nat.lt_of_lt_of_le (E_1).lt (Nat.le_of_eq g127.symm))) nin0))) (((((((((((((((((A_D.ext E127).keep K129 (ninS (Nat.ne_of_lt (Nat.lt_of_lt_of_le (A_D).lt (Nat.le_of_eq g127.symm))) nin0)).keep K130 (ninS (Nat.ne_of_lt (Nat.lt_of_lt_of_le (A_D).lt (Nat.le_of_eq g127.symm))) nin0)).keep K131 (ninS (Nat.ne_of_lt (Nat.lt_of_lt_of_le (A_D).lt (Nat.le_of_eq g127.symm))) nin0)).keep K132 (ninS (Nat.ne_of_lt (Nat.lt_of_lt_of_le (A_D).lt (Nat.le_of_eq g127.symm))) nin0)).keep K133 (ninS (Nat.ne_of_lt (Nat.lt_of_lt_of_le (A_D).lt (Nat.le_of_eq g127.symm))) nin0)).keep K134 (ninS (Nat.ne_of_lt (Nat.lt_of_lt_of_le (A_D).lt (Nat.le_of_eq g127.symm))) nin0)).keep K138 (ninS (Nat.ne_of_lt (Nat.lt_of_lt_of_le (A_D).lt (Nat.le_of_eq g127.symm))) nin0)).keep K139 (ninS (Nat.ne_of_lt (Nat.lt_of_lt_of_le (A_D).lt (Nat.le_of_eq g127.symm))) nin0)).keep K140 (ninS (Nat.ne_of_lt (Nat.lt_of_lt_of_le (A_D).lt (Nat.le_of_eq g127.symm))) nin0)).keep K141 (ninS (Nat.ne_of_lt (Nat.lt_of_lt_of_le (A_D).lt (Nat.le_of_eq g127.symm))) nin0)).keep K142 (ninS (Nat.ne_of_lt (Nat.lt_of_lt_of_le (A_D).lt (Nat.le_of_eq g127.symm))) nin0)).keep K143 (ninS (Nat.ne_of_lt (Nat.lt_of_lt_of_le (A_D).lt (Nat.le_of_eq g127.symm))) nin0)).keep K147 (ninS (Nat.ne_of_lt (Nat.lt_of_lt_of_le (A_D).lt (Nat.le_of_eq g127.symm))) nin0)).keep K148 (ninS (Nat.ne_of_lt (Nat.lt_of_lt_of_le (A_D).lt (Nat.le_of_eq g127.symm))) nin0)).keep K149 (ninS (Nat.ne_of_lt (Nat.lt_of_lt_of_le (A_D).lt (Nat.le_of_eq g127.symm))) nin0))) (A149) l127 (by decide) (by decide) (by decide) rfl (by decide) rfl ?_
  intro T150 h150 L150 X150 e150 N150 K150 A150
  rw [show own_nx [(.int (own_up (own_up (own_up (0 : Int32) d1) d10) d19)), (.int (own_up (own_up (own_up (0 : Int32) d2) d11) d20)), (.int (own_up (own_up (own_up (0 : Int32) d3) d12) d21)), (.int (own_up (own_up (0 : Int32) d4) d13)), (.int (own_up (own_up (0 : Int32) d5) d14)), (.int (own_up (own_up (0 : Int32) d6) d15))] (3 : Int32) (own_up (own_up (0 : Int32) d4) d13) d22 = [(.int (own_up (own_up (own_up (0 : Int32) d1) d10) d19)), (.int (own_up (own_up (own_up (0 : Int32) d2) d11) d20)), (.int (own_up (own_up (own_up (0 : Int32) d3) d12) d21)), (.int (own_up (own_up (own_up (0 : Int32) d4) d13) d22)), (.int (own_up (own_up (0 : Int32) d5) d14)), (.int (own_up (own_up (0 : Int32) d6) d15))] from by simp only [own_nx, own_up]; split <;> rfl] at A150
  refine rm_turn hx hw hZ hby hml hown X150 e150 N150 a1 b127 aD aC vC (19 : Int32) (4 : Int32) (5 : Int32) (own_up (own_up (0 : Int32) d5) d14) d23 [(.int (own_up (own_up (own_up (0 : Int32) d1) d10) d19)), (.int (own_up (own_up (own_up (0 : Int32) d2) d11) d20)), (.int (own_up (own_up (own_up (0 : Int32) d3) d12) d21)), (.int (own_up (own_up (own_up (0 : Int32) d4) d13) d22)), (.int (own_up (own_up (0 : Int32) d5) d14)), (.int (own_up (own_up (0 : Int32) d6) d15))] [(.int d0), (.int d1), (.int d2), (.int d3), (.int d4), (.int d5), (.int d6), (.int d7), (.int d8), (.int d9), (.int d10), (.int d11), (.int d12), (.int d13), (.int d14), (.int d15), (.int d16), (.int d17), (.int d18), (.int d19), (.int d20), (.int d21), (.int d22), (.int d23), (.int d24), (.int d25), (.int d26), (.int (0 : Int32)), (.int (0 : Int32)), (.int (0 : Int32)), (.int (0 : Int32)), (.int (0 : Int32)), (.int (0 : Int32)), (.int (0 : Int32)), (.int (0 : Int32)), (.int (0 : Int32))] ((((((((((((((((((O_0.ext E127).keep K129 (allS l127 all0)).keep K130 (allS l127 all0)).keep K131 (allS l127 all0)).keep K132 (allS l127 all0)).keep K133 (allS l127 all0)).keep K134 (allS l127 all0)).keep K138 (allS l127 all0)).keep K139 (allS l127 all0)).keep K140 (allS l127 all0)).keep K141 (allS l127 all0)).keep K142 (allS l127 all0)).keep K143 (allS l127 all0)).keep K147 (allS l127 all0)).keep K148 (allS l127 all0)).keep K149 (allS l127 all0)).keep K150 (allS l127 all0))) S_C A_C hC ((((((((((((((((((E_1.ext E127).keep K129).keep K130).keep K131).keep K132).keep K133).keep K134).keep K138).keep K139).keep K140).keep K141).keep K142).keep K143).keep K147).keep K148).keep K149).keep K150)) ((((((((((((((((((F_1.ext E127).keep K129 (ninS (Nat.ne_of_lt (Nat.lt_of_lt_of_le (E_1).lt (Nat.le_of_eq g127.symm))) nin0)).keep K130 (ninS (Nat.ne_of_lt (Nat.lt_of_lt_of_le (E_1).lt (Nat.le_of_eq g127.symm))) nin0)).keep K131 (ninS (Nat.ne_of_lt (Nat.lt_of_lt_of_le (E_1).lt (Nat.le_of_eq g127.symm))) nin0)).keep K132 (ninS (Nat.ne_of_lt (Nat.lt_of_lt_of_le (E_1).lt (Nat.le_of_eq g127.symm))) nin0)).keep K133 (ninS (Nat.ne_of_lt (Nat.lt_of_lt_of_le (E_1).lt (Nat.le_of_eq g127.symm))) nin0)).keep K134 (ninS (Nat.ne_of_lt (Nat.lt_of_lt_of_le (E_1).lt (Nat.le_of_eq g127.symm))) nin0)).keep K138 (ninS (Nat.ne_of_lt (Nat.lt_of_lt_of_le (E_1).lt (Nat.le_of_eq g127.symm))) nin0)).keep K139 (ninS (Nat.ne_of_lt (Nat.lt_of_lt_of_le (E_1).lt (Nat.le_of_eq g127.symm))) nin0)).keep K140 (ninS (Nat.ne_of_lt (Nat.lt_of_lt_of_le (E_1).lt (Nat.le_of_eq g127.symm))) nin0)).keep K141 (ninS (Nat.ne_of_lt (Nat.lt_of_lt_of_le (E_1).lt (Nat.le_of_eq g127.symm))) nin0)).keep K142 (ninS (Nat.ne_of_lt (Nat.lt_of_lt_of_le (E_1).lt (Nat.le_of_eq g127.symm))) nin0)).keep K143 (ninS (Nat.ne_of_lt (Nat.lt_of_lt_of_le (E_1).lt (Nat.le_of_eq g127.symm))) nin0)).keep K147 (ninS (Nat.ne_of_lt (Nat.lt_of_lt_of_le (E_1).lt (Nat.le_of_eq g127.symm))) nin0)).keep K148 (ninS (Nat.ne_of_lt (Nat.lt_of_lt_of_le (E_1).lt (Nat.le_of_eq g127.symm))) nin0)).keep K149 (ninS (Nat.ne_of_lt (Nat.lt_of_lt_of_le (E_1).lt (Nat.le_of_eq g127.symm))) nin0)).keep K150 (ninS (Nat.ne_of_lt (Nat.lt_of_lt_of_le (E_1).lt (Nat.le_of_eq g127.symm))) nin0))) ((((((((((((((((((A_D.ext E127).keep K129 (ninS (Nat.ne_of_lt (Nat.lt_of_lt_of_le (A_D).lt (Nat.le_of_eq g127.symm))) nin0)).keep K130 (ninS (Nat.ne_of_lt (Nat.lt_of_lt_of_le (A_D).lt (Nat.le_of_eq g127.symm))) nin0)).keep K131 (ninS (Nat.ne_of_lt (Nat.lt_of_lt_of_le (A_D).lt (Nat.le_of_eq g127.symm))) nin0)).keep K132 (ninS (Nat.ne_of_lt (Nat.lt_of_lt_of_le (A_D).lt (Nat.le_of_eq g127.symm))) nin0)).keep K133 (ninS (Nat.ne_of_lt (Nat.lt_of_lt_of_le (A_D).lt (Nat.le_of_eq g127.symm))) nin0)).keep K134 (ninS (Nat.ne_of_lt (Nat.lt_of_lt_of_le (A_D).lt (Nat.le_of_eq g127.symm))) nin0)).keep K138 (ninS (Nat.ne_of_lt (Nat.lt_of_lt_of_le (A_D).lt (Nat.le_of_eq g127.symm))) nin0)).keep K139 (ninS (Nat.ne_of_lt (Nat.lt_of_lt_of_le (A_D).lt (Nat.le_of_eq g127.symm))) nin0)).keep K140 (ninS (Nat.ne_of_lt (Nat.lt_of_lt_of_le (A_D).lt (Nat.le_of_eq g127.symm))) nin0)).keep K141 (ninS (Nat.ne_of_lt (Nat.lt_of_lt_of_le (A_D).lt (Nat.le_of_eq g127.symm))) nin0)).keep K142 (ninS (Nat.ne_of_lt (Nat.lt_of_lt_of_le (A_D).lt (Nat.le_of_eq g127.symm))) nin0)).keep K143 (ninS (Nat.ne_of_lt (Nat.lt_of_lt_of_le (A_D).lt (Nat.le_of_eq g127.symm))) nin0)).keep K147 (ninS (Nat.ne_of_lt (Nat.lt_of_lt_of_le (A_D).lt (Nat.le_of_eq g127.symm))) nin0)).keep K148 (ninS (Nat.ne_of_lt (Nat.lt_of_lt_of_le (A_D).lt (Nat.le_of_eq g127.symm))) nin0)).keep K149 (ninS (Nat.ne_of_lt (Nat.lt_of_lt_of_le (A_D).lt (Nat.le_of_eq g127.symm))) nin0)).keep K150 (ninS (Nat.ne_of_lt (Nat.lt_of_lt_of_le (A_D).lt (Nat.le_of_eq g127.symm))) nin0))) (A150) l127 (by decide) (by decide) (by decide) rfl (by decide) rfl ?_
  intro T151 h151 L151 X151 e151 N151 K151 A151
  rw [show own_nx [(.int (own_up (own_up (own_up (0 : Int32) d1) d10) d19)), (.int (own_up (own_up (own_up (0 : Int32) d2) d11) d20)), (.int (own_up (own_up (own_up (0 : Int32) d3) d12) d21)), (.int (own_up (own_up (own_up (0 : Int32) d4) d13) d22)), (.int (own_up (own_up (0 : Int32) d5) d14)), (.int (own_up (own_up (0 : Int32) d6) d15))] (4 : Int32) (own_up (own_up (0 : Int32) d5) d14) d23 = [(.int (own_up (own_up (own_up (0 : Int32) d1) d10) d19)), (.int (own_up (own_up (own_up (0 : Int32) d2) d11) d20)), (.int (own_up (own_up (own_up (0 : Int32) d3) d12) d21)), (.int (own_up (own_up (own_up (0 : Int32) d4) d13) d22)), (.int (own_up (own_up (own_up (0 : Int32) d5) d14) d23)), (.int (own_up (own_up (0 : Int32) d6) d15))] from by simp only [own_nx, own_up]; split <;> rfl] at A151
  refine rm_turn hx hw hZ hby hml hown X151 e151 N151 a1 b127 aD aC vC (19 : Int32) (5 : Int32) (6 : Int32) (own_up (own_up (0 : Int32) d6) d15) d24 [(.int (own_up (own_up (own_up (0 : Int32) d1) d10) d19)), (.int (own_up (own_up (own_up (0 : Int32) d2) d11) d20)), (.int (own_up (own_up (own_up (0 : Int32) d3) d12) d21)), (.int (own_up (own_up (own_up (0 : Int32) d4) d13) d22)), (.int (own_up (own_up (own_up (0 : Int32) d5) d14) d23)), (.int (own_up (own_up (0 : Int32) d6) d15))] [(.int d0), (.int d1), (.int d2), (.int d3), (.int d4), (.int d5), (.int d6), (.int d7), (.int d8), (.int d9), (.int d10), (.int d11), (.int d12), (.int d13), (.int d14), (.int d15), (.int d16), (.int d17), (.int d18), (.int d19), (.int d20), (.int d21), (.int d22), (.int d23), (.int d24), (.int d25), (.int d26), (.int (0 : Int32)), (.int (0 : Int32)), (.int (0 : Int32)), (.int (0 : Int32)), (.int (0 : Int32)), (.int (0 : Int32)), (.int (0 : Int32)), (.int (0 : Int32)), (.int (0 : Int32))] (((((((((((((((((((O_0.ext E127).keep K129 (allS l127 all0)).keep K130 (allS l127 all0)).keep K131 (allS l127 all0)).keep K132 (allS l127 all0)).keep K133 (allS l127 all0)).keep K134 (allS l127 all0)).keep K138 (allS l127 all0)).keep K139 (allS l127 all0)).keep K140 (allS l127 all0)).keep K141 (allS l127 all0)).keep K142 (allS l127 all0)).keep K143 (allS l127 all0)).keep K147 (allS l127 all0)).keep K148 (allS l127 all0)).keep K149 (allS l127 all0)).keep K150 (allS l127 all0)).keep K151 (allS l127 all0))) S_C A_C hC (((((((((((((((((((E_1.ext E127).keep K129).keep K130).keep K131).keep K132).keep K133).keep K134).keep K138).keep K139).keep K140).keep K141).keep K142).keep K143).keep K147).keep K148).keep K149).keep K150).keep K151)) (((((((((((((((((((F_1.ext E127).keep K129 (ninS (Nat.ne_of_lt (Nat.lt_of_lt_of_le (E_1).lt (Nat.le_of_eq g127.symm))) nin0)).keep K130 (ninS (Nat.ne_of_lt (Nat.lt_of_lt_of_le (E_1).lt (Nat.le_of_eq g127.symm))) nin0)).keep K131 (ninS (Nat.ne_of_lt (Nat.lt_of_lt_of_le (E_1).lt (Nat.le_of_eq g127.symm))) nin0)).keep K132 (ninS (Nat.ne_of_lt (Nat.lt_of_lt_of_le (E_1).lt (Nat.le_of_eq g127.symm))) nin0)).keep K133 (ninS (Nat.ne_of_lt (Nat.lt_of_lt_of_le (E_1).lt (Nat.le_of_eq g127.symm))) nin0)).keep K134 (ninS (Nat.ne_of_lt (Nat.lt_of_lt_of_le (E_1).lt (Nat.le_of_eq g127.symm))) nin0)).keep K138 (ninS (Nat.ne_of_lt (Nat.lt_of_lt_of_le (E_1).lt (Nat.le_of_eq g127.symm))) nin0)).keep K139 (ninS (Nat.ne_of_lt (Nat.lt_of_lt_of_le (E_1).lt (Nat.le_of_eq g127.symm))) nin0)).keep K140 (ninS (Nat.ne_of_lt (Nat.lt_of_lt_of_le (E_1).lt (Nat.le_of_eq g127.symm))) nin0)).keep K141 (ninS (Nat.ne_of_lt (Nat.lt_of_lt_of_le (E_1).lt (Nat.le_of_eq g127.symm))) nin0)).keep K142 (ninS (Nat.ne_of_lt (Nat.lt_of_lt_of_le (E_1).lt (Nat.le_of_eq g127.symm))) nin0)).keep K143 (ninS (Nat.ne_of_lt (Nat.lt_of_lt_of_le (E_1).lt (Nat.le_of_eq g127.symm))) nin0)).keep K147 (ninS (Nat.ne_of_lt (Nat.lt_of_lt_of_le (E_1).lt (Nat.le_of_eq g127.symm))) nin0)).keep K148 (ninS (Nat.ne_of_lt (Nat.lt_of_lt_of_le (E_1).lt (Nat.le_of_eq g127.symm))) nin0)).keep K149 (ninS (Nat.ne_of_lt (Nat.lt_of_lt_of_le (E_1).lt (Nat.le_of_eq g127.symm))) nin0)).keep K150 (ninS (Nat.ne_of_lt (Nat.lt_of_lt_of_le (E_1).lt (Nat.le_of_eq g127.symm))) nin0)).keep K151 (ninS (Nat.ne_of_lt (Nat.lt_of_lt_of_le (E_1).lt (Nat.le_of_eq g127.symm))) nin0))) (((((((((((((((((((A_D.ext E127).keep K129 (ninS (Nat.ne_of_lt (Nat.lt_of_lt_of_le (A_D).lt (Nat.le_of_eq g127.symm))) nin0)).keep K130 (ninS (Nat.ne_of_lt (Nat.lt_of_lt_of_le (A_D).lt (Nat.le_of_eq g127.symm))) nin0)).keep K131 (ninS (Nat.ne_of_lt (Nat.lt_of_lt_of_le (A_D).lt (Nat.le_of_eq g127.symm))) nin0)).keep K132 (ninS (Nat.ne_of_lt (Nat.lt_of_lt_of_le (A_D).lt (Nat.le_of_eq g127.symm))) nin0)).keep K133 (ninS (Nat.ne_of_lt (Nat.lt_of_lt_of_le (A_D).lt (Nat.le_of_eq g127.symm))) nin0)).keep K134 (ninS (Nat.ne_of_lt (Nat.lt_of_lt_of_le (A_D).lt (Nat.le_of_eq g127.symm))) nin0)).keep K138 (ninS (Nat.ne_of_lt (Nat.lt_of_lt_of_le (A_D).lt (Nat.le_of_eq g127.symm))) nin0)).keep K139 (ninS (Nat.ne_of_lt (Nat.lt_of_lt_of_le (A_D).lt (Nat.le_of_eq g127.symm))) nin0)).keep K140 (ninS (Nat.ne_of_lt (Nat.lt_of_lt_of_le (A_D).lt (Nat.le_of_eq g127.symm))) nin0)).keep K141 (ninS (Nat.ne_of_lt (Nat.lt_of_lt_of_le (A_D).lt (Nat.le_of_eq g127.symm))) nin0)).keep K142 (ninS (Nat.ne_of_lt (Nat.lt_of_lt_of_le (A_D).lt (Nat.le_of_eq g127.symm))) nin0)).keep K143 (ninS (Nat.ne_of_lt (Nat.lt_of_lt_of_le (A_D).lt (Nat.le_of_eq g127.symm))) nin0)).keep K147 (ninS (Nat.ne_of_lt (Nat.lt_of_lt_of_le (A_D).lt (Nat.le_of_eq g127.symm))) nin0)).keep K148 (ninS (Nat.ne_of_lt (Nat.lt_of_lt_of_le (A_D).lt (Nat.le_of_eq g127.symm))) nin0)).keep K149 (ninS (Nat.ne_of_lt (Nat.lt_of_lt_of_le (A_D).lt (Nat.le_of_eq g127.symm))) nin0)).keep K150 (ninS (Nat.ne_of_lt (Nat.lt_of_lt_of_le (A_D).lt (Nat.le_of_eq g127.symm))) nin0)).keep K151 (ninS (Nat.ne_of_lt (Nat.lt_of_lt_of_le (A_D).lt (Nat.le_of_eq g127.symm))) nin0))) (A151) l127 (by decide) (by decide) (by decide) rfl (by decide) rfl ?_
  intro T152 h152 L152 X152 e152 N152 K152 A152
  rw [show own_nx [(.int (own_up (own_up (own_up (0 : Int32) d1) d10) d19)), (.int (own_up (own_up (own_up (0 : Int32) d2) d11) d20)), (.int (own_up (own_up (own_up (0 : Int32) d3) d12) d21)), (.int (own_up (own_up (own_up (0 : Int32) d4) d13) d22)), (.int (own_up (own_up (own_up (0 : Int32) d5) d14) d23)), (.int (own_up (own_up (0 : Int32) d6) d15))] (5 : Int32) (own_up (own_up (0 : Int32) d6) d15) d24 = [(.int (own_up (own_up (own_up (0 : Int32) d1) d10) d19)), (.int (own_up (own_up (own_up (0 : Int32) d2) d11) d20)), (.int (own_up (own_up (own_up (0 : Int32) d3) d12) d21)), (.int (own_up (own_up (own_up (0 : Int32) d4) d13) d22)), (.int (own_up (own_up (own_up (0 : Int32) d5) d14) d23)), (.int (own_up (own_up (own_up (0 : Int32) d6) d15) d24))] from by simp only [own_nx, own_up]; split <;> rfl] at A152
  show own_Go p.tables e below (T152.setTop (mkF m 19 #[.val (.ref a1), .val (.ref b127), .val (.int (19 : Int32)), .val (.int (6 : Int32))] [])) _
  refine own_iloadN X152 hx hby own_d7_19 (pc' := 20) rfl rfl ?_
  refine own_getS X152 hx hby own_d7_20 (pc' := 23) rfl hZ hown (host := "") (Or.inl (hw _ (List.mem_of_getElem? (i := 35) rfl))) Via.refl e152 (S_C.ext ((((((((((((((((((((O_0.ext E127).keep K129 (allS l127 all0)).keep K130 (allS l127 all0)).keep K131 (allS l127 all0)).keep K132 (allS l127 all0)).keep K133 (allS l127 all0)).keep K134 (allS l127 all0)).keep K138 (allS l127 all0)).keep K139 (allS l127 all0)).keep K140 (allS l127 all0)).keep K141 (allS l127 all0)).keep K142 (allS l127 all0)).keep K143 (allS l127 all0)).keep K147 (allS l127 all0)).keep K148 (allS l127 all0)).keep K149 (allS l127 all0)).keep K150 (allS l127 all0)).keep K151 (allS l127 all0)).keep K152 (allS l127 all0))).2) ?_
  intro T153 X153 e153
  refine own_len X153 hx hby own_d7_23 (pc' := 24) rfl hZ e153 (A_C.ext ((((((((((((((((((((O_0.ext E127).keep K129 (allS l127 all0)).keep K130 (allS l127 all0)).keep K131 (allS l127 all0)).keep K132 (allS l127 all0)).keep K133 (allS l127 all0)).keep K134 (allS l127 all0)).keep K138 (allS l127 all0)).keep K139 (allS l127 all0)).keep K140 (allS l127 all0)).keep K141 (allS l127 all0)).keep K142 (allS l127 all0)).keep K143 (allS l127 all0)).keep K147 (allS l127 all0)).keep K148 (allS l127 all0)).keep K149 (allS l127 all0)).keep K150 (allS l127 all0)).keep K151 (allS l127 all0)).keep K152 (allS l127 all0))).2) hC ?_
  refine own_icmpYes X153 hx hby own_d7_24 (pc' := 51) (by decide) (by decide) ?_
  refine own_iloadN X153 hx hby own_d7_51 (pc' := 52) rfl rfl ?_
  refine own_getS X153 hx hby own_d7_52 (pc' := 55) rfl hZ hown (host := "") (Or.inl (hw _ (List.mem_of_getElem? (i := 18) rfl))) Via.refl e153 (S_S.ext ((((((((((((((((((((O_0.ext E127).keep K129 (allS l127 all0)).keep K130 (allS l127 all0)).keep K131 (allS l127 all0)).keep K132 (allS l127 all0)).keep K133 (allS l127 all0)).keep K134 (allS l127 all0)).keep K138 (allS l127 all0)).keep K139 (allS l127 all0)).keep K140 (allS l127 all0)).keep K141 (allS l127 all0)).keep K142 (allS l127 all0)).keep K143 (allS l127 all0)).keep K147 (allS l127 all0)).keep K148 (allS l127 all0)).keep K149 (allS l127 all0)).keep K150 (allS l127 all0)).keep K151 (allS l127 all0)).keep K152 (allS l127 all0))).2) ?_
  intro T154 X154 e154
  refine own_iadd X154 hx hby own_d7_55 (pc' := 56) rfl (z := (28 : Int32)) (by decide) ?_
  refine own_istoreN X154 hx hby own_d7_56 (pc' := 57) rfl (Ls' := #[.val (.ref a1), .val (.ref b127), .val (.int (28 : Int32)), .val (.int (6 : Int32))]) rfl ?_
  refine own_goto X154 hx hby own_d7_57 (pc' := 9) (by decide) ?_
  refine own_iloadN X154 hx hby own_d7_9 (pc' := 10) rfl rfl ?_
  refine own_aloadN X154 hx hby own_d7_10 (pc' := 11) rfl rfl rfl ?_
  refine own_getF X154 hx hby own_d7_11 (pc' := 14) rfl hZ hown (host := "") (Or.inl (hw _ (List.mem_of_getElem? (i := 28) rfl))) Via.refl e154 (((((((((((((((((((F_2.ext E127).keep K129 (ninS (Nat.ne_of_lt (Nat.lt_of_lt_of_le (E_1).lt (Nat.le_of_eq g127.symm))) nin0)).keep K130 (ninS (Nat.ne_of_lt (Nat.lt_of_lt_of_le (E_1).lt (Nat.le_of_eq g127.symm))) nin0)).keep K131 (ninS (Nat.ne_of_lt (Nat.lt_of_lt_of_le (E_1).lt (Nat.le_of_eq g127.symm))) nin0)).keep K132 (ninS (Nat.ne_of_lt (Nat.lt_of_lt_of_le (E_1).lt (Nat.le_of_eq g127.symm))) nin0)).keep K133 (ninS (Nat.ne_of_lt (Nat.lt_of_lt_of_le (E_1).lt (Nat.le_of_eq g127.symm))) nin0)).keep K134 (ninS (Nat.ne_of_lt (Nat.lt_of_lt_of_le (E_1).lt (Nat.le_of_eq g127.symm))) nin0)).keep K138 (ninS (Nat.ne_of_lt (Nat.lt_of_lt_of_le (E_1).lt (Nat.le_of_eq g127.symm))) nin0)).keep K139 (ninS (Nat.ne_of_lt (Nat.lt_of_lt_of_le (E_1).lt (Nat.le_of_eq g127.symm))) nin0)).keep K140 (ninS (Nat.ne_of_lt (Nat.lt_of_lt_of_le (E_1).lt (Nat.le_of_eq g127.symm))) nin0)).keep K141 (ninS (Nat.ne_of_lt (Nat.lt_of_lt_of_le (E_1).lt (Nat.le_of_eq g127.symm))) nin0)).keep K142 (ninS (Nat.ne_of_lt (Nat.lt_of_lt_of_le (E_1).lt (Nat.le_of_eq g127.symm))) nin0)).keep K143 (ninS (Nat.ne_of_lt (Nat.lt_of_lt_of_le (E_1).lt (Nat.le_of_eq g127.symm))) nin0)).keep K147 (ninS (Nat.ne_of_lt (Nat.lt_of_lt_of_le (E_1).lt (Nat.le_of_eq g127.symm))) nin0)).keep K148 (ninS (Nat.ne_of_lt (Nat.lt_of_lt_of_le (E_1).lt (Nat.le_of_eq g127.symm))) nin0)).keep K149 (ninS (Nat.ne_of_lt (Nat.lt_of_lt_of_le (E_1).lt (Nat.le_of_eq g127.symm))) nin0)).keep K150 (ninS (Nat.ne_of_lt (Nat.lt_of_lt_of_le (E_1).lt (Nat.le_of_eq g127.symm))) nin0)).keep K151 (ninS (Nat.ne_of_lt (Nat.lt_of_lt_of_le (E_1).lt (Nat.le_of_eq g127.symm))) nin0)).keep K152 (ninS (Nat.ne_of_lt (Nat.lt_of_lt_of_le (E_1).lt (Nat.le_of_eq g127.symm))) nin0)) ?_
  intro T155 X155 e155
  refine own_icmpYes X155 hx hby own_d7_14 (pc' := 60) (by decide) (by decide) ?_
  refine own_aloadN X155 hx hby own_d7_60 (pc' := 61) rfl rfl rfl ?_
  exact own_retA X155 hx hret rfl rfl (hb hby own_d7_61) hlk (by decide) (by decide) ⟨b127, rfl, N152, by rw [show T155.heap = _ from e155]; exact ⟨((((((((((((((((((((Keep.refl h0 []).ext E127).trans K129 (allS (Or.inr (Nat.le_trans (Nat.le_refl _) (Nat.le_of_eq g127.symm))) all0)).trans K130 (allS (Or.inr (Nat.le_trans (Nat.le_refl _) (Nat.le_of_eq g127.symm))) all0)).trans K131 (allS (Or.inr (Nat.le_trans (Nat.le_refl _) (Nat.le_of_eq g127.symm))) all0)).trans K132 (allS (Or.inr (Nat.le_trans (Nat.le_refl _) (Nat.le_of_eq g127.symm))) all0)).trans K133 (allS (Or.inr (Nat.le_trans (Nat.le_refl _) (Nat.le_of_eq g127.symm))) all0)).trans K134 (allS (Or.inr (Nat.le_trans (Nat.le_refl _) (Nat.le_of_eq g127.symm))) all0)).trans K138 (allS (Or.inr (Nat.le_trans (Nat.le_refl _) (Nat.le_of_eq g127.symm))) all0)).trans K139 (allS (Or.inr (Nat.le_trans (Nat.le_refl _) (Nat.le_of_eq g127.symm))) all0)).trans K140 (allS (Or.inr (Nat.le_trans (Nat.le_refl _) (Nat.le_of_eq g127.symm))) all0)).trans K141 (allS (Or.inr (Nat.le_trans (Nat.le_refl _) (Nat.le_of_eq g127.symm))) all0)).trans K142 (allS (Or.inr (Nat.le_trans (Nat.le_refl _) (Nat.le_of_eq g127.symm))) all0)).trans K143 (allS (Or.inr (Nat.le_trans (Nat.le_refl _) (Nat.le_of_eq g127.symm))) all0)).trans K147 (allS (Or.inr (Nat.le_trans (Nat.le_refl _) (Nat.le_of_eq g127.symm))) all0)).trans K148 (allS (Or.inr (Nat.le_trans (Nat.le_refl _) (Nat.le_of_eq g127.symm))) all0)).trans K149 (allS (Or.inr (Nat.le_trans (Nat.le_refl _) (Nat.le_of_eq g127.symm))) all0)).trans K150 (allS (Or.inr (Nat.le_trans (Nat.le_refl _) (Nat.le_of_eq g127.symm))) all0)).trans K151 (allS (Or.inr (Nat.le_trans (Nat.le_refl _) (Nat.le_of_eq g127.symm))) all0)).trans K152 (allS (Or.inr (Nat.le_trans (Nat.le_refl _) (Nat.le_of_eq g127.symm))) all0)), (Nat.le_of_eq g127.symm), A152⟩⟩
theorem own_d9_0 : decode method_5_code 0 = .ok (.iload_n 2, 1) := by decide +kernel
theorem own_d9_1 : decode method_5_code 1 = .ok (.ifCond .eq 11, 3) := by decide +kernel
theorem own_d9_4 : decode method_5_code 4 = .ok (.aload_n 0, 1) := by decide +kernel
theorem own_d9_5 : decode method_5_code 5 = .ok (.iload_n 1, 1) := by decide +kernel
theorem own_d9_6 : decode method_5_code 6 = .ok (.iaload, 1) := by decide +kernel
theorem own_d9_7 : decode method_5_code 7 = .ok (.ifCond .le 5, 3) := by decide +kernel
theorem own_d9_10 : decode method_5_code 10 = .ok (.iconst 1, 1) := by decide +kernel
theorem own_d9_11 : decode method_5_code 11 = .ok (.ireturn, 1) := by decide +kernel
theorem own_d9_12 : decode method_5_code 12 = .ok (.iconst 0, 1) := by decide +kernel
theorem own_d9_13 : decode method_5_code 13 = .ok (.ireturn, 1) := by decide +kernel
theorem own_ef_rm_one (m : MethodId) (a1 : Addr) (k1 : Int32) (p1 : Int32) : entryFrame m #[(.ref a1), (.int k1), (.int p1)] 3 = mkF m 0 #[.val (.ref a1), .val (.int k1), .val (.int p1)] [] := by first | (simp [entryFrame, mkF, argsToLocals, Value.category]; done) | rfl
def Qrm_one (Z : State) (a1 : Addr) (k1 : Int32) (p1 : Int32) (y1 : Int32) (ys : List Value) (h0 : Heap) (n0 : Nat) (v : Option Value) (h : Heap) (L : List Loc) : Prop := v = some (.int (own_pr p1 y1)) ∧ Fr n0 L ∧ h = h0
set_option maxRecDepth 65536 in
set_option maxHeartbeats 40000000 in
theorem rm_one (l : Launch) (Z : State) (a0 : Array Value) (hw : ∀ d ∈ tables_1, d.before a0 Z = true) (ws : List Jvm.Cond) (a1 : Addr) (k1 : Int32) (p1 : Int32) (y1 : Int32) (ys : List Value) (h0 : Heap) (n0 : Nat) (A_1 : own_Ar Z h0 a1 .int ys) (hj : ¬ k1 < 0) (hv : ys[k1.toNatClampNeg]? = some (.int y1)) :
    own_Met l (⟨"com/example/tag_weighted_rank/tagweightedrank/PostingsClassSizesPinLaw", "one", "([IIZ)I"⟩ : MethodName) method_5_code 3 (some .int) ws ({ frames := 0, cells := 0, slots := 0, locals := 0 } : Room) #[(.ref a1), (.int k1), (.int p1)] Z h0 (Qrm_one Z a1 k1 p1 y1 ys h0 n0) := by
  refine own_body own_pn9 ?_
  intro p e s m below meth c T0 X0 hx hby hml hown hnm hret hlk hZ e0
  have N0 := Fr.nil n0
  refine own_st (fun t k => castTop (own_ef_rm_one m a1 k1 p1) k) ?_
  show own_Go p.tables e below (T0.setTop (mkF m 0 #[.val (.ref a1), .val (.int k1), .val (.int p1)] [])) _
  refine own_iloadN X0 hx hby own_d9_0 (pc' := 1) rfl rfl ?_
  by_cases hc1 : p1 = (0 : Int32)
  · skip
    refine own_ifYes X0 hx hby own_d9_1 (pc' := 12) (by decide) (teq hc1).1 ?_
    refine own_iconst X0 hx hby own_d9_12 (pc' := 13) rfl (z := (0 : Int32)) (by decide) ?_
    exact own_retI X0 hx hret (hb hby own_d9_13) hlk (by decide) (by decide) ⟨congrArg (fun z => some (Value.int z)) (by simp only [own_pr, hc1, if_true, if_false]), N0, e0⟩
  · skip
    refine own_ifNo X0 hx hby own_d9_1 (pc' := 4) rfl (feq hc1).1 ?_
    refine own_aloadN X0 hx hby own_d9_4 (pc' := 5) rfl rfl rfl ?_
    refine own_iloadN X0 hx hby own_d9_5 (pc' := 6) rfl rfl ?_
    refine own_iaload X0 hx hby own_d9_6 (pc' := 7) rfl hZ e0 A_1 hj hv ?_
    by_cases hc7 : (0 : Int32) < y1
    · skip
      refine own_ifNo X0 hx hby own_d9_7 (pc' := 10) rfl (tlt hc7).2.2.2 ?_
      refine own_iconst X0 hx hby own_d9_10 (pc' := 11) rfl (z := (1 : Int32)) (by decide) ?_
      exact own_retI X0 hx hret (hb hby own_d9_11) hlk (by decide) (by decide) ⟨congrArg (fun z => some (Value.int z)) (by simp only [own_pr, hc1, hc7, if_true, if_false]), N0, e0⟩
    · skip
      refine own_ifYes X0 hx hby own_d9_7 (pc' := 12) (by decide) (flt hc7).2.2.2 ?_
      refine own_iconst X0 hx hby own_d9_12 (pc' := 13) rfl (z := (0 : Int32)) (by decide) ?_
      exact own_retI X0 hx hret (hb hby own_d9_13) hlk (by decide) (by decide) ⟨congrArg (fun z => some (Value.int z)) (by simp only [own_pr, hc1, hc7, if_true, if_false]), N0, e0⟩
theorem own_pd3 : parseMethodDescriptor "([IIZ)I" = some ⟨[(.array .int), .int, .boolean], some .int⟩ := by decide +kernel
theorem own_d8_0 : decode method_6_code 0 = .ok (.aload_n 0, 1) := by decide +kernel
theorem own_d8_1 : decode method_6_code 1 = .ok (.iload 4, 2) := by decide +kernel
theorem own_d8_3 : decode method_6_code 3 = .ok (.iload_n 3, 1) := by decide +kernel
theorem own_d8_4 : decode method_6_code 4 = .ok (.ifCond .le 7, 3) := by decide +kernel
theorem own_d8_7 : decode method_6_code 7 = .ok (.iconst 1, 1) := by decide +kernel
theorem own_d8_8 : decode method_6_code 8 = .ok (.goto 4, 3) := by decide +kernel
theorem own_d8_11 : decode method_6_code 11 = .ok (.iconst 0, 1) := by decide +kernel
theorem own_d8_12 : decode method_6_code 12 = .ok (.invokestatic 38, 3) := by decide +kernel
theorem own_d8_15 : decode method_6_code 15 = .ok (.aload_n 1, 1) := by decide +kernel
theorem own_d8_16 : decode method_6_code 16 = .ok (.iload 4, 2) := by decide +kernel
theorem own_d8_18 : decode method_6_code 18 = .ok (.iload_n 3, 1) := by decide +kernel
theorem own_d8_19 : decode method_6_code 19 = .ok (.iconst 1, 1) := by decide +kernel
theorem own_d8_20 : decode method_6_code 20 = .ok (.if_icmp .le 7, 3) := by decide +kernel
theorem own_d8_23 : decode method_6_code 23 = .ok (.iconst 1, 1) := by decide +kernel
theorem own_d8_24 : decode method_6_code 24 = .ok (.goto 4, 3) := by decide +kernel
theorem own_d8_27 : decode method_6_code 27 = .ok (.iconst 0, 1) := by decide +kernel
theorem own_d8_28 : decode method_6_code 28 = .ok (.invokestatic 38, 3) := by decide +kernel
theorem own_d8_31 : decode method_6_code 31 = .ok (.iadd, 1) := by decide +kernel
theorem own_d8_32 : decode method_6_code 32 = .ok (.aload_n 2, 1) := by decide +kernel
theorem own_d8_33 : decode method_6_code 33 = .ok (.iload 4, 2) := by decide +kernel
theorem own_d8_35 : decode method_6_code 35 = .ok (.iload_n 3, 1) := by decide +kernel
theorem own_d8_36 : decode method_6_code 36 = .ok (.iconst 2, 1) := by decide +kernel
theorem own_d8_37 : decode method_6_code 37 = .ok (.if_icmp .le 7, 3) := by decide +kernel
theorem own_d8_40 : decode method_6_code 40 = .ok (.iconst 1, 1) := by decide +kernel
theorem own_d8_41 : decode method_6_code 41 = .ok (.goto 4, 3) := by decide +kernel
theorem own_d8_44 : decode method_6_code 44 = .ok (.iconst 0, 1) := by decide +kernel
theorem own_d8_45 : decode method_6_code 45 = .ok (.invokestatic 38, 3) := by decide +kernel
theorem own_d8_48 : decode method_6_code 48 = .ok (.iadd, 1) := by decide +kernel
theorem own_d8_49 : decode method_6_code 49 = .ok (.ireturn, 1) := by decide +kernel
theorem own_ef_rm_ex (m : MethodId) (a1 : Addr) (a2 : Addr) (a3 : Addr) (n1 : Int32) (k1 : Int32) : entryFrame m #[(.ref a1), (.ref a2), (.ref a3), (.int n1), (.int k1)] 5 = mkF m 0 #[.val (.ref a1), .val (.ref a2), .val (.ref a3), .val (.int n1), .val (.int k1)] [] := by first | (simp [entryFrame, mkF, argsToLocals, Value.category]; done) | rfl
def Qrm_ex (Z : State) (a1 : Addr) (a2 : Addr) (a3 : Addr) (n1 : Int32) (k1 : Int32) (y1 : Int32) (y2 : Int32) (y3 : Int32) (ys1 : List Value) (ys2 : List Value) (ys3 : List Value) (h0 : Heap) (n0 : Nat) (v : Option Value) (h : Heap) (L : List Loc) : Prop := v = some (.int (own_ex n1 y1 y2 y3)) ∧ Fr n0 L ∧ h = h0
set_option maxRecDepth 65536 in
set_option maxHeartbeats 40000000 in
theorem rm_ex (l : Launch) (Z : State) (a0 : Array Value) (hw : ∀ d ∈ tables_1, d.before a0 Z = true) (ws : List Jvm.Cond) (a1 : Addr) (a2 : Addr) (a3 : Addr) (n1 : Int32) (k1 : Int32) (y1 : Int32) (y2 : Int32) (y3 : Int32) (ys1 : List Value) (ys2 : List Value) (ys3 : List Value) (h0 : Heap) (n0 : Nat) (A_1 : own_Ar Z h0 a1 .int ys1) (A_2 : own_Ar Z h0 a2 .int ys2) (A_3 : own_Ar Z h0 a3 .int ys3) (hj : ¬ k1 < 0) (hv1 : ys1[k1.toNatClampNeg]? = some (.int y1)) (hv2 : ys2[k1.toNatClampNeg]? = some (.int y2)) (hv3 : ys3[k1.toNatClampNeg]? = some (.int y3)) :
    own_Met l (⟨"com/example/tag_weighted_rank/tagweightedrank/PostingsClassSizesPinLaw", "expected", "([I[I[III)I"⟩ : MethodName) method_6_code 5 (some .int) ws ({ frames := 1, cells := 0, slots := 0, locals := 24 } : Room) #[(.ref a1), (.ref a2), (.ref a3), (.int n1), (.int k1)] Z h0 (Qrm_ex Z a1 a2 a3 n1 k1 y1 y2 y3 ys1 ys2 ys3 h0 n0) := by
  refine own_body own_pn8 ?_
  intro p e s m below meth c T0 X0 hx hby hml hown hnm hret hlk hZ e0
  have N0 := Fr.nil n0
  refine own_st (fun t k => castTop (own_ef_rm_ex m a1 a2 a3 n1 k1) k) ?_
  show own_Go p.tables e below (T0.setTop (mkF m 0 #[.val (.ref a1), .val (.ref a2), .val (.ref a3), .val (.int n1), .val (.int k1)] [])) _
  refine own_aloadN X0 hx hby own_d8_0 (pc' := 1) rfl rfl rfl ?_
  refine own_iload X0 hx hby own_d8_1 (pc' := 3) rfl rfl ?_
  refine own_iloadN X0 hx hby own_d8_3 (pc' := 4) rfl rfl ?_
  by_cases hc4 : (0 : Int32) < n1
  · skip
    refine own_ifNo X0 hx hby own_d8_4 (pc' := 7) rfl (tlt hc4).2.2.2 ?_
    refine own_iconst X0 hx hby own_d8_7 (pc' := 8) rfl (z := (1 : Int32)) (by decide) ?_
    refine own_goto X0 hx hby own_d8_8 (pc' := 12) (by decide) ?_
    refine own_callS X0 hx hZ (rm_one l Z a0 hw [] a1 k1 (1 : Int32) y1 ys1 h0 n0 A_1 hj hv1) hown (hw _ (List.mem_of_getElem? (i := 40) rfl)) (hw _ (List.mem_of_getElem? (i := 41) rfl)) (hw _ (List.mem_of_getElem? (i := 2) rfl)) (hw _ (List.mem_of_getElem? (i := 42) rfl)) (by decide) (W := 0) (by decide) (by decide) (by rw [hml]; rfl) (argsL := [(.ref a1), (.int k1), (.int (1 : Int32))]) (rest := []) rfl (lenOf own_pd3 rfl) rfl (Nat.le_of_eq rfl) (hb hby own_d8_12) e0 (by decide) (by decide) ?_
    intro v156 T156 L156 X156 hQ156
    obtain ⟨hv156, N156q, e156⟩ := hQ156
    subst hv156
    have N156 := Fr.app N0 N156q
    show own_Go p.tables e below (T156.setTop (mkF m 15 #[.val (.ref a1), .val (.ref a2), .val (.ref a3), .val (.int n1), .val (.int k1)] [(.int (own_pr (1 : Int32) y1))])) _
    refine own_aloadN X156 hx hby own_d8_15 (pc' := 16) rfl rfl rfl ?_
    refine own_iload X156 hx hby own_d8_16 (pc' := 18) rfl rfl ?_
    refine own_iloadN X156 hx hby own_d8_18 (pc' := 19) rfl rfl ?_
    refine own_iconst X156 hx hby own_d8_19 (pc' := 20) rfl (z := (1 : Int32)) (by decide) ?_
    by_cases hc20 : (1 : Int32) < n1
    · skip
      refine own_icmpNo X156 hx hby own_d8_20 (pc' := 23) rfl (tlt hc20).2.2.2 ?_
      refine own_iconst X156 hx hby own_d8_23 (pc' := 24) rfl (z := (1 : Int32)) (by decide) ?_
      refine own_goto X156 hx hby own_d8_24 (pc' := 28) (by decide) ?_
      refine own_callS X156 hx hZ (rm_one l Z a0 hw [] a2 k1 (1 : Int32) y2 ys2 h0 n0 A_2 hj hv2) hown (hw _ (List.mem_of_getElem? (i := 40) rfl)) (hw _ (List.mem_of_getElem? (i := 41) rfl)) (hw _ (List.mem_of_getElem? (i := 2) rfl)) (hw _ (List.mem_of_getElem? (i := 42) rfl)) (by decide) (W := 1) (by decide) (by decide) (by rw [hml]; rfl) (argsL := [(.ref a2), (.int k1), (.int (1 : Int32))]) (rest := [(.int (own_pr (1 : Int32) y1))]) rfl (lenOf own_pd3 rfl) rfl (Nat.le_of_eq rfl) (hb hby own_d8_28) e156 (by decide) (by decide) ?_
      intro v157 T157 L157 X157 hQ157
      obtain ⟨hv157, N157q, e157⟩ := hQ157
      subst hv157
      have N157 := Fr.app N156 N157q
      show own_Go p.tables e below (T157.setTop (mkF m 31 #[.val (.ref a1), .val (.ref a2), .val (.ref a3), .val (.int n1), .val (.int k1)] [(.int (own_pr (1 : Int32) y2)), (.int (own_pr (1 : Int32) y1))])) _
      refine own_iadd X157 hx hby own_d8_31 (pc' := 32) rfl rfl ?_
      refine own_aloadN X157 hx hby own_d8_32 (pc' := 33) rfl rfl rfl ?_
      refine own_iload X157 hx hby own_d8_33 (pc' := 35) rfl rfl ?_
      refine own_iloadN X157 hx hby own_d8_35 (pc' := 36) rfl rfl ?_
      refine own_iconst X157 hx hby own_d8_36 (pc' := 37) rfl (z := (2 : Int32)) (by decide) ?_
      by_cases hc37 : (2 : Int32) < n1
      · skip
        refine own_icmpNo X157 hx hby own_d8_37 (pc' := 40) rfl (tlt hc37).2.2.2 ?_
        refine own_iconst X157 hx hby own_d8_40 (pc' := 41) rfl (z := (1 : Int32)) (by decide) ?_
        refine own_goto X157 hx hby own_d8_41 (pc' := 45) (by decide) ?_
        refine own_callS X157 hx hZ (rm_one l Z a0 hw [] a3 k1 (1 : Int32) y3 ys3 h0 n0 A_3 hj hv3) hown (hw _ (List.mem_of_getElem? (i := 40) rfl)) (hw _ (List.mem_of_getElem? (i := 41) rfl)) (hw _ (List.mem_of_getElem? (i := 2) rfl)) (hw _ (List.mem_of_getElem? (i := 42) rfl)) (by decide) (W := 1) (by decide) (by decide) (by rw [hml]; rfl) (argsL := [(.ref a3), (.int k1), (.int (1 : Int32))]) (rest := [(.int ((own_pr (1 : Int32) y1) + (own_pr (1 : Int32) y2)))]) rfl (lenOf own_pd3 rfl) rfl (Nat.le_of_eq rfl) (hb hby own_d8_45) e157 (by decide) (by decide) ?_
        intro v158 T158 L158 X158 hQ158
        obtain ⟨hv158, N158q, e158⟩ := hQ158
        subst hv158
        have N158 := Fr.app N157 N158q
        show own_Go p.tables e below (T158.setTop (mkF m 48 #[.val (.ref a1), .val (.ref a2), .val (.ref a3), .val (.int n1), .val (.int k1)] [(.int (own_pr (1 : Int32) y3)), (.int ((own_pr (1 : Int32) y1) + (own_pr (1 : Int32) y2)))])) _
        refine own_iadd X158 hx hby own_d8_48 (pc' := 49) rfl rfl ?_
        exact own_retI X158 hx hret (hb hby own_d8_49) hlk (by decide) (by decide) ⟨congrArg (fun z => some (Value.int z)) (by simp only [own_ex, hc4, hc20, hc37, if_true, if_false]), N158, e158⟩
      · skip
        refine own_icmpYes X157 hx hby own_d8_37 (pc' := 44) (by decide) (flt hc37).2.2.2 ?_
        refine own_iconst X157 hx hby own_d8_44 (pc' := 45) rfl (z := (0 : Int32)) (by decide) ?_
        refine own_callS X157 hx hZ (rm_one l Z a0 hw [] a3 k1 (0 : Int32) y3 ys3 h0 n0 A_3 hj hv3) hown (hw _ (List.mem_of_getElem? (i := 40) rfl)) (hw _ (List.mem_of_getElem? (i := 41) rfl)) (hw _ (List.mem_of_getElem? (i := 2) rfl)) (hw _ (List.mem_of_getElem? (i := 42) rfl)) (by decide) (W := 1) (by decide) (by decide) (by rw [hml]; rfl) (argsL := [(.ref a3), (.int k1), (.int (0 : Int32))]) (rest := [(.int ((own_pr (1 : Int32) y1) + (own_pr (1 : Int32) y2)))]) rfl (lenOf own_pd3 rfl) rfl (Nat.le_of_eq rfl) (hb hby own_d8_45) e157 (by decide) (by decide) ?_
        intro v159 T159 L159 X159 hQ159
        obtain ⟨hv159, N159q, e159⟩ := hQ159
        subst hv159
        have N159 := Fr.app N157 N159q
        show own_Go p.tables e below (T159.setTop (mkF m 48 #[.val (.ref a1), .val (.ref a2), .val (.ref a3), .val (.int n1), .val (.int k1)] [(.int (own_pr (0 : Int32) y3)), (.int ((own_pr (1 : Int32) y1) + (own_pr (1 : Int32) y2)))])) _
        refine own_iadd X159 hx hby own_d8_48 (pc' := 49) rfl rfl ?_
        exact own_retI X159 hx hret (hb hby own_d8_49) hlk (by decide) (by decide) ⟨congrArg (fun z => some (Value.int z)) (by simp only [own_ex, hc4, hc20, hc37, if_true, if_false]), N159, e159⟩
    · skip
      refine own_icmpYes X156 hx hby own_d8_20 (pc' := 27) (by decide) (flt hc20).2.2.2 ?_
      refine own_iconst X156 hx hby own_d8_27 (pc' := 28) rfl (z := (0 : Int32)) (by decide) ?_
      refine own_callS X156 hx hZ (rm_one l Z a0 hw [] a2 k1 (0 : Int32) y2 ys2 h0 n0 A_2 hj hv2) hown (hw _ (List.mem_of_getElem? (i := 40) rfl)) (hw _ (List.mem_of_getElem? (i := 41) rfl)) (hw _ (List.mem_of_getElem? (i := 2) rfl)) (hw _ (List.mem_of_getElem? (i := 42) rfl)) (by decide) (W := 1) (by decide) (by decide) (by rw [hml]; rfl) (argsL := [(.ref a2), (.int k1), (.int (0 : Int32))]) (rest := [(.int (own_pr (1 : Int32) y1))]) rfl (lenOf own_pd3 rfl) rfl (Nat.le_of_eq rfl) (hb hby own_d8_28) e156 (by decide) (by decide) ?_
      intro v160 T160 L160 X160 hQ160
      obtain ⟨hv160, N160q, e160⟩ := hQ160
      subst hv160
      have N160 := Fr.app N156 N160q
      show own_Go p.tables e below (T160.setTop (mkF m 31 #[.val (.ref a1), .val (.ref a2), .val (.ref a3), .val (.int n1), .val (.int k1)] [(.int (own_pr (0 : Int32) y2)), (.int (own_pr (1 : Int32) y1))])) _
      refine own_iadd X160 hx hby own_d8_31 (pc' := 32) rfl rfl ?_
      refine own_aloadN X160 hx hby own_d8_32 (pc' := 33) rfl rfl rfl ?_
      refine own_iload X160 hx hby own_d8_33 (pc' := 35) rfl rfl ?_
      refine own_iloadN X160 hx hby own_d8_35 (pc' := 36) rfl rfl ?_
      refine own_iconst X160 hx hby own_d8_36 (pc' := 37) rfl (z := (2 : Int32)) (by decide) ?_
      by_cases hc37 : (2 : Int32) < n1
      · skip
        refine own_icmpNo X160 hx hby own_d8_37 (pc' := 40) rfl (tlt hc37).2.2.2 ?_
        refine own_iconst X160 hx hby own_d8_40 (pc' := 41) rfl (z := (1 : Int32)) (by decide) ?_
        refine own_goto X160 hx hby own_d8_41 (pc' := 45) (by decide) ?_
        refine own_callS X160 hx hZ (rm_one l Z a0 hw [] a3 k1 (1 : Int32) y3 ys3 h0 n0 A_3 hj hv3) hown (hw _ (List.mem_of_getElem? (i := 40) rfl)) (hw _ (List.mem_of_getElem? (i := 41) rfl)) (hw _ (List.mem_of_getElem? (i := 2) rfl)) (hw _ (List.mem_of_getElem? (i := 42) rfl)) (by decide) (W := 1) (by decide) (by decide) (by rw [hml]; rfl) (argsL := [(.ref a3), (.int k1), (.int (1 : Int32))]) (rest := [(.int ((own_pr (1 : Int32) y1) + (own_pr (0 : Int32) y2)))]) rfl (lenOf own_pd3 rfl) rfl (Nat.le_of_eq rfl) (hb hby own_d8_45) e160 (by decide) (by decide) ?_
        intro v161 T161 L161 X161 hQ161
        obtain ⟨hv161, N161q, e161⟩ := hQ161
        subst hv161
        have N161 := Fr.app N160 N161q
        show own_Go p.tables e below (T161.setTop (mkF m 48 #[.val (.ref a1), .val (.ref a2), .val (.ref a3), .val (.int n1), .val (.int k1)] [(.int (own_pr (1 : Int32) y3)), (.int ((own_pr (1 : Int32) y1) + (own_pr (0 : Int32) y2)))])) _
        refine own_iadd X161 hx hby own_d8_48 (pc' := 49) rfl rfl ?_
        exact own_retI X161 hx hret (hb hby own_d8_49) hlk (by decide) (by decide) ⟨congrArg (fun z => some (Value.int z)) (by simp only [own_ex, hc4, hc20, hc37, if_true, if_false]), N161, e161⟩
      · skip
        refine own_icmpYes X160 hx hby own_d8_37 (pc' := 44) (by decide) (flt hc37).2.2.2 ?_
        refine own_iconst X160 hx hby own_d8_44 (pc' := 45) rfl (z := (0 : Int32)) (by decide) ?_
        refine own_callS X160 hx hZ (rm_one l Z a0 hw [] a3 k1 (0 : Int32) y3 ys3 h0 n0 A_3 hj hv3) hown (hw _ (List.mem_of_getElem? (i := 40) rfl)) (hw _ (List.mem_of_getElem? (i := 41) rfl)) (hw _ (List.mem_of_getElem? (i := 2) rfl)) (hw _ (List.mem_of_getElem? (i := 42) rfl)) (by decide) (W := 1) (by decide) (by decide) (by rw [hml]; rfl) (argsL := [(.ref a3), (.int k1), (.int (0 : Int32))]) (rest := [(.int ((own_pr (1 : Int32) y1) + (own_pr (0 : Int32) y2)))]) rfl (lenOf own_pd3 rfl) rfl (Nat.le_of_eq rfl) (hb hby own_d8_45) e160 (by decide) (by decide) ?_
        intro v162 T162 L162 X162 hQ162
        obtain ⟨hv162, N162q, e162⟩ := hQ162
        subst hv162
        have N162 := Fr.app N160 N162q
        show own_Go p.tables e below (T162.setTop (mkF m 48 #[.val (.ref a1), .val (.ref a2), .val (.ref a3), .val (.int n1), .val (.int k1)] [(.int (own_pr (0 : Int32) y3)), (.int ((own_pr (1 : Int32) y1) + (own_pr (0 : Int32) y2)))])) _
        refine own_iadd X162 hx hby own_d8_48 (pc' := 49) rfl rfl ?_
        exact own_retI X162 hx hret (hb hby own_d8_49) hlk (by decide) (by decide) ⟨congrArg (fun z => some (Value.int z)) (by simp only [own_ex, hc4, hc20, hc37, if_true, if_false]), N162, e162⟩
  · skip
    refine own_ifYes X0 hx hby own_d8_4 (pc' := 11) (by decide) (flt hc4).2.2.2 ?_
    refine own_iconst X0 hx hby own_d8_11 (pc' := 12) rfl (z := (0 : Int32)) (by decide) ?_
    refine own_callS X0 hx hZ (rm_one l Z a0 hw [] a1 k1 (0 : Int32) y1 ys1 h0 n0 A_1 hj hv1) hown (hw _ (List.mem_of_getElem? (i := 40) rfl)) (hw _ (List.mem_of_getElem? (i := 41) rfl)) (hw _ (List.mem_of_getElem? (i := 2) rfl)) (hw _ (List.mem_of_getElem? (i := 42) rfl)) (by decide) (W := 0) (by decide) (by decide) (by rw [hml]; rfl) (argsL := [(.ref a1), (.int k1), (.int (0 : Int32))]) (rest := []) rfl (lenOf own_pd3 rfl) rfl (Nat.le_of_eq rfl) (hb hby own_d8_12) e0 (by decide) (by decide) ?_
    intro v163 T163 L163 X163 hQ163
    obtain ⟨hv163, N163q, e163⟩ := hQ163
    subst hv163
    have N163 := Fr.app N0 N163q
    show own_Go p.tables e below (T163.setTop (mkF m 15 #[.val (.ref a1), .val (.ref a2), .val (.ref a3), .val (.int n1), .val (.int k1)] [(.int (own_pr (0 : Int32) y1))])) _
    refine own_aloadN X163 hx hby own_d8_15 (pc' := 16) rfl rfl rfl ?_
    refine own_iload X163 hx hby own_d8_16 (pc' := 18) rfl rfl ?_
    refine own_iloadN X163 hx hby own_d8_18 (pc' := 19) rfl rfl ?_
    refine own_iconst X163 hx hby own_d8_19 (pc' := 20) rfl (z := (1 : Int32)) (by decide) ?_
    by_cases hc20 : (1 : Int32) < n1
    · skip
      exact (own_no1 hc4 hc20).elim
    · skip
      refine own_icmpYes X163 hx hby own_d8_20 (pc' := 27) (by decide) (flt hc20).2.2.2 ?_
      refine own_iconst X163 hx hby own_d8_27 (pc' := 28) rfl (z := (0 : Int32)) (by decide) ?_
      refine own_callS X163 hx hZ (rm_one l Z a0 hw [] a2 k1 (0 : Int32) y2 ys2 h0 n0 A_2 hj hv2) hown (hw _ (List.mem_of_getElem? (i := 40) rfl)) (hw _ (List.mem_of_getElem? (i := 41) rfl)) (hw _ (List.mem_of_getElem? (i := 2) rfl)) (hw _ (List.mem_of_getElem? (i := 42) rfl)) (by decide) (W := 1) (by decide) (by decide) (by rw [hml]; rfl) (argsL := [(.ref a2), (.int k1), (.int (0 : Int32))]) (rest := [(.int (own_pr (0 : Int32) y1))]) rfl (lenOf own_pd3 rfl) rfl (Nat.le_of_eq rfl) (hb hby own_d8_28) e163 (by decide) (by decide) ?_
      intro v164 T164 L164 X164 hQ164
      obtain ⟨hv164, N164q, e164⟩ := hQ164
      subst hv164
      have N164 := Fr.app N163 N164q
      show own_Go p.tables e below (T164.setTop (mkF m 31 #[.val (.ref a1), .val (.ref a2), .val (.ref a3), .val (.int n1), .val (.int k1)] [(.int (own_pr (0 : Int32) y2)), (.int (own_pr (0 : Int32) y1))])) _
      refine own_iadd X164 hx hby own_d8_31 (pc' := 32) rfl rfl ?_
      refine own_aloadN X164 hx hby own_d8_32 (pc' := 33) rfl rfl rfl ?_
      refine own_iload X164 hx hby own_d8_33 (pc' := 35) rfl rfl ?_
      refine own_iloadN X164 hx hby own_d8_35 (pc' := 36) rfl rfl ?_
      refine own_iconst X164 hx hby own_d8_36 (pc' := 37) rfl (z := (2 : Int32)) (by decide) ?_
      by_cases hc37 : (2 : Int32) < n1
      · skip
        refine own_icmpNo X164 hx hby own_d8_37 (pc' := 40) rfl (tlt hc37).2.2.2 ?_
        refine own_iconst X164 hx hby own_d8_40 (pc' := 41) rfl (z := (1 : Int32)) (by decide) ?_
        refine own_goto X164 hx hby own_d8_41 (pc' := 45) (by decide) ?_
        refine own_callS X164 hx hZ (rm_one l Z a0 hw [] a3 k1 (1 : Int32) y3 ys3 h0 n0 A_3 hj hv3) hown (hw _ (List.mem_of_getElem? (i := 40) rfl)) (hw _ (List.mem_of_getElem? (i := 41) rfl)) (hw _ (List.mem_of_getElem? (i := 2) rfl)) (hw _ (List.mem_of_getElem? (i := 42) rfl)) (by decide) (W := 1) (by decide) (by decide) (by rw [hml]; rfl) (argsL := [(.ref a3), (.int k1), (.int (1 : Int32))]) (rest := [(.int ((own_pr (0 : Int32) y1) + (own_pr (0 : Int32) y2)))]) rfl (lenOf own_pd3 rfl) rfl (Nat.le_of_eq rfl) (hb hby own_d8_45) e164 (by decide) (by decide) ?_
        intro v165 T165 L165 X165 hQ165
        obtain ⟨hv165, N165q, e165⟩ := hQ165
        subst hv165
        have N165 := Fr.app N164 N165q
        show own_Go p.tables e below (T165.setTop (mkF m 48 #[.val (.ref a1), .val (.ref a2), .val (.ref a3), .val (.int n1), .val (.int k1)] [(.int (own_pr (1 : Int32) y3)), (.int ((own_pr (0 : Int32) y1) + (own_pr (0 : Int32) y2)))])) _
        refine own_iadd X165 hx hby own_d8_48 (pc' := 49) rfl rfl ?_
        exact own_retI X165 hx hret (hb hby own_d8_49) hlk (by decide) (by decide) ⟨congrArg (fun z => some (Value.int z)) (by simp only [own_ex, hc4, hc20, hc37, if_true, if_false]), N165, e165⟩
      · skip
        refine own_icmpYes X164 hx hby own_d8_37 (pc' := 44) (by decide) (flt hc37).2.2.2 ?_
        refine own_iconst X164 hx hby own_d8_44 (pc' := 45) rfl (z := (0 : Int32)) (by decide) ?_
        refine own_callS X164 hx hZ (rm_one l Z a0 hw [] a3 k1 (0 : Int32) y3 ys3 h0 n0 A_3 hj hv3) hown (hw _ (List.mem_of_getElem? (i := 40) rfl)) (hw _ (List.mem_of_getElem? (i := 41) rfl)) (hw _ (List.mem_of_getElem? (i := 2) rfl)) (hw _ (List.mem_of_getElem? (i := 42) rfl)) (by decide) (W := 1) (by decide) (by decide) (by rw [hml]; rfl) (argsL := [(.ref a3), (.int k1), (.int (0 : Int32))]) (rest := [(.int ((own_pr (0 : Int32) y1) + (own_pr (0 : Int32) y2)))]) rfl (lenOf own_pd3 rfl) rfl (Nat.le_of_eq rfl) (hb hby own_d8_45) e164 (by decide) (by decide) ?_
        intro v166 T166 L166 X166 hQ166
        obtain ⟨hv166, N166q, e166⟩ := hQ166
        subst hv166
        have N166 := Fr.app N164 N166q
        show own_Go p.tables e below (T166.setTop (mkF m 48 #[.val (.ref a1), .val (.ref a2), .val (.ref a3), .val (.int n1), .val (.int k1)] [(.int (own_pr (0 : Int32) y3)), (.int ((own_pr (0 : Int32) y1) + (own_pr (0 : Int32) y2)))])) _
        refine own_iadd X166 hx hby own_d8_48 (pc' := 49) rfl rfl ?_
        exact own_retI X166 hx hret (hb hby own_d8_49) hlk (by decide) (by decide) ⟨congrArg (fun z => some (Value.int z)) (by simp only [own_ex, hc4, hc20, hc37, if_true, if_false]), N166, e166⟩
theorem own_pd4 : parseMethodDescriptor "(I)[I" = some ⟨[.int], some (.array .int)⟩ := by decide +kernel
theorem own_pd5 : parseMethodDescriptor "(II[I)[I" = some ⟨[.int, .int, (.array .int)], some (.array .int)⟩ := by decide +kernel
theorem own_pd6 : parseMethodDescriptor "()V" = some ⟨[], none⟩ := by decide +kernel
theorem own_pd7 : parseMethodDescriptor "(I[I[I)V" = some ⟨[.int, (.array .int), (.array .int)], none⟩ := by decide +kernel
theorem own_pd8 : parseMethodDescriptor "()[I" = some ⟨[], some (.array .int)⟩ := by decide +kernel
theorem own_pd9 : parseMethodDescriptor "([I[I[III)I" = some ⟨[(.array .int), (.array .int), (.array .int), .int, .int], some .int⟩ := by decide +kernel
theorem own_ef_rm0 (m : MethodId) (p1 : Int32) (p2 : Int32) (p3 : Int32) (p4 : Int32) (p5 : Int32) (p6 : Int32) : entryFrame m #[(.int p1), (.int p2), (.int p3), (.int p4), (.int p5), (.int p6)] maxLocals = mkF m 0 #[.val (.int p1), .val (.int p2), .val (.int p3), .val (.int p4), .val (.int p5), .val (.int p6), .unset, .unset, .unset, .unset, .unset, .unset, .unset, .unset, .unset, .unset, .unset, .unset] [] := by first | (simp [entryFrame, mkF, argsToLocals, Value.category, maxLocals]; done) | rfl
def Qrm0 (Z : State) (p1 : Int32) (p2 : Int32) (p3 : Int32) (p4 : Int32) (p5 : Int32) (p6 : Int32) (aC : Addr) (vC : List Value) (h0 : Heap) (n0 : Nat) (v : Option Value) (h : Heap) (L : List Loc) : Prop := v = some (.int (1 : Int32)) ∧ Fr n0 L
set_option maxRecDepth 65536 in
set_option maxHeartbeats 40000000 in
theorem rm0 (l : Launch) (Z : State) (a0 : Array Value) (hw : ∀ d ∈ tables_1, d.before a0 Z = true) (ws : List Jvm.Cond) (p1 : Int32) (p2 : Int32) (p3 : Int32) (p4 : Int32) (p5 : Int32) (p6 : Int32) (aC : Addr) (vC : List Value) (h0 : Heap) (n0 : Nat) (O_0 : Old Z n0 h0) (S_S : Sta Z Z.heap "com/example/tag_weighted_rank/tagweightedrank/Postings" "STRIDE" "I" (.int (9 : Int32))) (S_M : Sta Z Z.heap "com/example/tag_weighted_rank/tagweightedrank/Postings" "MARKINGS" "I" (.int (2 : Int32))) (S_C : Sta Z Z.heap "com/example/tag_weighted_rank/tagweightedrank/Postings" "CLASSES" "[Lcom/example/tag_weighted_rank/tagweightedrank/TagClass;" (.ref aC)) (A_C : own_Ar Z Z.heap aC (.object "com/example/tag_weighted_rank/tagweightedrank/TagClass") vC) (hC : vC.length.toInt32 = 6) :
    own_Met l x code maxLocals ret ws room_1 #[(.int p1), (.int p2), (.int p3), (.int p4), (.int p5), (.int p6)] Z h0 (Qrm0 Z p1 p2 p3 p4 p5 p6 aC vC h0 n0) := by
  refine own_body own_pn0 ?_
  intro p e s m below meth c T0 X0 hx hby hml hown hnm hret hlk hZ e0
  have N0 := Fr.nil n0
  refine own_st (fun t k => castTop (own_ef_rm0 m p1 p2 p3 p4 p5 p6) k) ?_
  show own_Go p.tables e below (T0.setTop (mkF m 0 #[.val (.int p1), .val (.int p2), .val (.int p3), .val (.int p4), .val (.int p5), .val (.int p6), .unset, .unset, .unset, .unset, .unset, .unset, .unset, .unset, .unset, .unset, .unset, .unset] [])) _
  have Z0 := own_Z0 O_0
  refine own_iloadN X0 hx hby at_0 (pc' := 1) rfl rfl ?_
  refine own_iconst X0 hx hby at_1 (pc' := 2) rfl (z := (3 : Int32)) (by decide) ?_
  refine own_iand X0 hx hby at_2 (pc' := 3) rfl rfl ?_
  refine own_istore X0 hx hby at_3 (pc' := 5) rfl (Ls' := #[.val (.int p1), .val (.int p2), .val (.int p3), .val (.int p4), .val (.int p5), .val (.int p6), .val (.int (p1 &&& (3 : Int32))), .unset, .unset, .unset, .unset, .unset, .unset, .unset, .unset, .unset, .unset, .unset]) rfl ?_
  refine own_iloadN X0 hx hby at_5 (pc' := 6) rfl rfl ?_
  refine own_callS X0 hx hZ (rm_ct l Z a0 hw [] p3 h0 n0 (own_Z0 (O_0))) hown (hw _ (List.mem_of_getElem? (i := 0) rfl)) (hw _ (List.mem_of_getElem? (i := 1) rfl)) (hw _ (List.mem_of_getElem? (i := 2) rfl)) (hw _ (List.mem_of_getElem? (i := 3) rfl)) (by decide) (W := 0) (by decide) (by decide) (by rw [hml]; rfl) (argsL := [(.int p3)]) (rest := []) rfl (lenOf own_pd4 rfl) rfl (Nat.le_of_eq rfl) (hb hby at_6) e0 (by decide) (by decide) ?_
  intro v167 T167 L167 X167 hQ167
  obtain ⟨b167, y0_167, y1_167, y2_167, y3_167, y4_167, y5_167, hv167, N167q, K167, g167, A167⟩ := hQ167
  subst hv167
  have N167 := Fr.app N0 N167q
  show own_Go p.tables e below (T167.setTop (mkF m 9 #[.val (.int p1), .val (.int p2), .val (.int p3), .val (.int p4), .val (.int p5), .val (.int p6), .val (.int (p1 &&& (3 : Int32))), .unset, .unset, .unset, .unset, .unset, .unset, .unset, .unset, .unset, .unset, .unset] [(.ref b167)])) _
  refine own_astore X167 hx hby at_9 (pc' := 11) rfl rfl (Ls' := #[.val (.int p1), .val (.int p2), .val (.int p3), .val (.int p4), .val (.int p5), .val (.int p6), .val (.int (p1 &&& (3 : Int32))), .val (.ref b167), .unset, .unset, .unset, .unset, .unset, .unset, .unset, .unset, .unset, .unset]) rfl ?_
  refine own_iloadN X167 hx hby at_11 (pc' := 12) rfl rfl ?_
  refine own_callS X167 hx hZ (rm_ct l Z a0 hw [] p4 T167.heap n0 (own_Z0 ((O_0.keep K167 all0)))) hown (hw _ (List.mem_of_getElem? (i := 0) rfl)) (hw _ (List.mem_of_getElem? (i := 1) rfl)) (hw _ (List.mem_of_getElem? (i := 2) rfl)) (hw _ (List.mem_of_getElem? (i := 3) rfl)) (by decide) (W := 0) (by decide) (by decide) (by rw [hml]; rfl) (argsL := [(.int p4)]) (rest := []) rfl (lenOf own_pd4 rfl) rfl (Nat.le_of_eq rfl) (hb hby at_12) rfl (by decide) (by decide) ?_
  intro v168 T168 L168 X168 hQ168
  obtain ⟨b168, y0_168, y1_168, y2_168, y3_168, y4_168, y5_168, hv168, N168q, K168, g168, A168⟩ := hQ168
  subst hv168
  have N168 := Fr.app N167 N168q
  show own_Go p.tables e below (T168.setTop (mkF m 15 #[.val (.int p1), .val (.int p2), .val (.int p3), .val (.int p4), .val (.int p5), .val (.int p6), .val (.int (p1 &&& (3 : Int32))), .val (.ref b167), .unset, .unset, .unset, .unset, .unset, .unset, .unset, .unset, .unset, .unset] [(.ref b168)])) _
  refine own_astore X168 hx hby at_15 (pc' := 17) rfl rfl (Ls' := #[.val (.int p1), .val (.int p2), .val (.int p3), .val (.int p4), .val (.int p5), .val (.int p6), .val (.int (p1 &&& (3 : Int32))), .val (.ref b167), .val (.ref b168), .unset, .unset, .unset, .unset, .unset, .unset, .unset, .unset, .unset]) rfl ?_
  refine own_iload X168 hx hby at_17 (pc' := 19) rfl rfl ?_
  refine own_callS X168 hx hZ (rm_ct l Z a0 hw [] p5 T168.heap n0 (own_Z0 (((O_0.keep K167 all0).keep K168 all0)))) hown (hw _ (List.mem_of_getElem? (i := 0) rfl)) (hw _ (List.mem_of_getElem? (i := 1) rfl)) (hw _ (List.mem_of_getElem? (i := 2) rfl)) (hw _ (List.mem_of_getElem? (i := 3) rfl)) (by decide) (W := 0) (by decide) (by decide) (by rw [hml]; rfl) (argsL := [(.int p5)]) (rest := []) rfl (lenOf own_pd4 rfl) rfl (Nat.le_of_eq rfl) (hb hby at_19) rfl (by decide) (by decide) ?_
  intro v169 T169 L169 X169 hQ169
  obtain ⟨b169, y0_169, y1_169, y2_169, y3_169, y4_169, y5_169, hv169, N169q, K169, g169, A169⟩ := hQ169
  subst hv169
  have N169 := Fr.app N168 N169q
  show own_Go p.tables e below (T169.setTop (mkF m 22 #[.val (.int p1), .val (.int p2), .val (.int p3), .val (.int p4), .val (.int p5), .val (.int p6), .val (.int (p1 &&& (3 : Int32))), .val (.ref b167), .val (.ref b168), .unset, .unset, .unset, .unset, .unset, .unset, .unset, .unset, .unset] [(.ref b169)])) _
  refine own_astore X169 hx hby at_22 (pc' := 24) rfl rfl (Ls' := #[.val (.int p1), .val (.int p2), .val (.int p3), .val (.int p4), .val (.int p5), .val (.int p6), .val (.int (p1 &&& (3 : Int32))), .val (.ref b167), .val (.ref b168), .val (.ref b169), .unset, .unset, .unset, .unset, .unset, .unset, .unset, .unset]) rfl ?_
  refine own_iload X169 hx hby at_24 (pc' := 26) rfl rfl ?_
  refine own_iconst X169 hx hby at_26 (pc' := 27) rfl (z := (0 : Int32)) (by decide) ?_
  refine own_aload X169 hx hby at_27 (pc' := 29) rfl rfl rfl ?_
  refine own_callS X169 hx hZ (rm_mk l Z a0 hw [] p6 (0 : Int32) b167 y0_167 y1_167 y2_167 y3_167 y4_167 y5_167 T169.heap n0 (own_Z0 ((((O_0.keep K167 all0).keep K168 all0).keep K169 all0))) (((A167.keep K168 nin0).keep K169 nin0))) hown (hw _ (List.mem_of_getElem? (i := 5) rfl)) (hw _ (List.mem_of_getElem? (i := 6) rfl)) (hw _ (List.mem_of_getElem? (i := 2) rfl)) (hw _ (List.mem_of_getElem? (i := 7) rfl)) (by decide) (W := 0) (by decide) (by decide) (by rw [hml]; rfl) (argsL := [(.int p6), (.int (0 : Int32)), (.ref b167)]) (rest := []) rfl (lenOf own_pd5 rfl) rfl (Nat.le_of_eq rfl) (hb hby at_29) rfl (by decide) (by decide) ?_
  intro v170 T170 L170 X170 hQ170
  obtain ⟨b170, m0_170, m1_170, hv170, N170q, K170, g170, A170⟩ := hQ170
  subst hv170
  have N170 := Fr.app N169 N170q
  show own_Go p.tables e below (T170.setTop (mkF m 32 #[.val (.int p1), .val (.int p2), .val (.int p3), .val (.int p4), .val (.int p5), .val (.int p6), .val (.int (p1 &&& (3 : Int32))), .val (.ref b167), .val (.ref b168), .val (.ref b169), .unset, .unset, .unset, .unset, .unset, .unset, .unset, .unset] [(.ref b170)])) _
  refine own_astore X170 hx hby at_32 (pc' := 34) rfl rfl (Ls' := #[.val (.int p1), .val (.int p2), .val (.int p3), .val (.int p4), .val (.int p5), .val (.int p6), .val (.int (p1 &&& (3 : Int32))), .val (.ref b167), .val (.ref b168), .val (.ref b169), .val (.ref b170), .unset, .unset, .unset, .unset, .unset, .unset, .unset]) rfl ?_
  refine own_iload X170 hx hby at_34 (pc' := 36) rfl rfl ?_
  refine own_bipush X170 hx hby at_36 (pc' := 38) rfl (z := (8 : Int32)) (by decide) ?_
  refine own_aload X170 hx hby at_38 (pc' := 40) rfl rfl rfl ?_
  refine own_callS X170 hx hZ (rm_mk l Z a0 hw [] p6 (8 : Int32) b168 y0_168 y1_168 y2_168 y3_168 y4_168 y5_168 T170.heap n0 (own_Z0 (((((O_0.keep K167 all0).keep K168 all0).keep K169 all0).keep K170 all0))) (((A168.keep K169 nin0).keep K170 nin0))) hown (hw _ (List.mem_of_getElem? (i := 5) rfl)) (hw _ (List.mem_of_getElem? (i := 6) rfl)) (hw _ (List.mem_of_getElem? (i := 2) rfl)) (hw _ (List.mem_of_getElem? (i := 7) rfl)) (by decide) (W := 0) (by decide) (by decide) (by rw [hml]; rfl) (argsL := [(.int p6), (.int (8 : Int32)), (.ref b168)]) (rest := []) rfl (lenOf own_pd5 rfl) rfl (Nat.le_of_eq rfl) (hb hby at_40) rfl (by decide) (by decide) ?_
  intro v171 T171 L171 X171 hQ171
  obtain ⟨b171, m0_171, m1_171, hv171, N171q, K171, g171, A171⟩ := hQ171
  subst hv171
  have N171 := Fr.app N170 N171q
  show own_Go p.tables e below (T171.setTop (mkF m 43 #[.val (.int p1), .val (.int p2), .val (.int p3), .val (.int p4), .val (.int p5), .val (.int p6), .val (.int (p1 &&& (3 : Int32))), .val (.ref b167), .val (.ref b168), .val (.ref b169), .val (.ref b170), .unset, .unset, .unset, .unset, .unset, .unset, .unset] [(.ref b171)])) _
  refine own_astore X171 hx hby at_43 (pc' := 45) rfl rfl (Ls' := #[.val (.int p1), .val (.int p2), .val (.int p3), .val (.int p4), .val (.int p5), .val (.int p6), .val (.int (p1 &&& (3 : Int32))), .val (.ref b167), .val (.ref b168), .val (.ref b169), .val (.ref b170), .val (.ref b171), .unset, .unset, .unset, .unset, .unset, .unset]) rfl ?_
  refine own_iload X171 hx hby at_45 (pc' := 47) rfl rfl ?_
  refine own_bipush X171 hx hby at_47 (pc' := 49) rfl (z := (16 : Int32)) (by decide) ?_
  refine own_aload X171 hx hby at_49 (pc' := 51) rfl rfl rfl ?_
  refine own_callS X171 hx hZ (rm_mk l Z a0 hw [] p6 (16 : Int32) b169 y0_169 y1_169 y2_169 y3_169 y4_169 y5_169 T171.heap n0 (own_Z0 ((((((O_0.keep K167 all0).keep K168 all0).keep K169 all0).keep K170 all0).keep K171 all0))) (((A169.keep K170 nin0).keep K171 nin0))) hown (hw _ (List.mem_of_getElem? (i := 5) rfl)) (hw _ (List.mem_of_getElem? (i := 6) rfl)) (hw _ (List.mem_of_getElem? (i := 2) rfl)) (hw _ (List.mem_of_getElem? (i := 7) rfl)) (by decide) (W := 0) (by decide) (by decide) (by rw [hml]; rfl) (argsL := [(.int p6), (.int (16 : Int32)), (.ref b169)]) (rest := []) rfl (lenOf own_pd5 rfl) rfl (Nat.le_of_eq rfl) (hb hby at_51) rfl (by decide) (by decide) ?_
  intro v172 T172 L172 X172 hQ172
  obtain ⟨b172, m0_172, m1_172, hv172, N172q, K172, g172, A172⟩ := hQ172
  subst hv172
  have N172 := Fr.app N171 N172q
  show own_Go p.tables e below (T172.setTop (mkF m 54 #[.val (.int p1), .val (.int p2), .val (.int p3), .val (.int p4), .val (.int p5), .val (.int p6), .val (.int (p1 &&& (3 : Int32))), .val (.ref b167), .val (.ref b168), .val (.ref b169), .val (.ref b170), .val (.ref b171), .unset, .unset, .unset, .unset, .unset, .unset] [(.ref b172)])) _
  refine own_astore X172 hx hby at_54 (pc' := 56) rfl rfl (Ls' := #[.val (.int p1), .val (.int p2), .val (.int p3), .val (.int p4), .val (.int p5), .val (.int p6), .val (.int (p1 &&& (3 : Int32))), .val (.ref b167), .val (.ref b168), .val (.ref b169), .val (.ref b170), .val (.ref b171), .val (.ref b172), .unset, .unset, .unset, .unset, .unset]) rfl ?_
  refine own_iloadN X172 hx hby at_56 (pc' := 57) rfl rfl ?_
  refine own_bipush X172 hx hby at_57 (pc' := 59) rfl (z := (7 : Int32)) (by decide) ?_
  refine own_iand X172 hx hby at_59 (pc' := 60) rfl rfl ?_
  refine own_istore X172 hx hby at_60 (pc' := 62) rfl (Ls' := #[.val (.int p1), .val (.int p2), .val (.int p3), .val (.int p4), .val (.int p5), .val (.int p6), .val (.int (p1 &&& (3 : Int32))), .val (.ref b167), .val (.ref b168), .val (.ref b169), .val (.ref b170), .val (.ref b171), .val (.ref b172), .val (.int (p2 &&& (7 : Int32))), .unset, .unset, .unset, .unset]) rfl ?_
  refine own_iload X172 hx hby at_62 (pc' := 64) rfl rfl ?_
  refine own_iconst X172 hx hby at_64 (pc' := 65) rfl (z := (1 : Int32)) (by decide) ?_
  refine own_iadd X172 hx hby at_65 (pc' := 66) rfl rfl ?_
  refine own_iloadN X172 hx hby at_66 (pc' := 67) rfl rfl ?_
  refine own_iconst X172 hx hby at_67 (pc' := 68) rfl (z := (3 : Int32)) (by decide) ?_
  refine own_iushr X172 hx hby at_68 (pc' := 69) rfl rfl ?_
  refine own_bipush X172 hx hby at_69 (pc' := 71) rfl (z := (7 : Int32)) (by decide) ?_
  refine own_iand X172 hx hby at_71 (pc' := 72) rfl rfl ?_
  refine own_iadd X172 hx hby at_72 (pc' := 73) rfl rfl ?_
  refine own_istore X172 hx hby at_73 (pc' := 75) rfl (Ls' := #[.val (.int p1), .val (.int p2), .val (.int p3), .val (.int p4), .val (.int p5), .val (.int p6), .val (.int (p1 &&& (3 : Int32))), .val (.ref b167), .val (.ref b168), .val (.ref b169), .val (.ref b170), .val (.ref b171), .val (.ref b172), .val (.int (p2 &&& (7 : Int32))), .val (.int (((p2 &&& (7 : Int32)) + (1 : Int32)) + (((p2.toUInt32 >>> ((3 : Int32) &&& 31).toUInt32).toInt32) &&& (7 : Int32)))), .unset, .unset, .unset]) rfl ?_
  refine own_iload X172 hx hby at_75 (pc' := 77) rfl rfl ?_
  refine own_iconst X172 hx hby at_77 (pc' := 78) rfl (z := (1 : Int32)) (by decide) ?_
  refine own_iadd X172 hx hby at_78 (pc' := 79) rfl rfl ?_
  refine own_iloadN X172 hx hby at_79 (pc' := 80) rfl rfl ?_
  refine own_bipush X172 hx hby at_80 (pc' := 82) rfl (z := (6 : Int32)) (by decide) ?_
  refine own_iushr X172 hx hby at_82 (pc' := 83) rfl rfl ?_
  refine own_bipush X172 hx hby at_83 (pc' := 85) rfl (z := (7 : Int32)) (by decide) ?_
  refine own_iand X172 hx hby at_85 (pc' := 86) rfl rfl ?_
  refine own_iadd X172 hx hby at_86 (pc' := 87) rfl rfl ?_
  refine own_istore X172 hx hby at_87 (pc' := 89) rfl (Ls' := #[.val (.int p1), .val (.int p2), .val (.int p3), .val (.int p4), .val (.int p5), .val (.int p6), .val (.int (p1 &&& (3 : Int32))), .val (.ref b167), .val (.ref b168), .val (.ref b169), .val (.ref b170), .val (.ref b171), .val (.ref b172), .val (.int (p2 &&& (7 : Int32))), .val (.int (((p2 &&& (7 : Int32)) + (1 : Int32)) + (((p2.toUInt32 >>> ((3 : Int32) &&& 31).toUInt32).toInt32) &&& (7 : Int32)))), .val (.int (((((p2 &&& (7 : Int32)) + (1 : Int32)) + (((p2.toUInt32 >>> ((3 : Int32) &&& 31).toUInt32).toInt32) &&& (7 : Int32))) + (1 : Int32)) + (((p2.toUInt32 >>> ((6 : Int32) &&& 31).toUInt32).toInt32) &&& (7 : Int32)))), .unset, .unset]) rfl ?_
  refine own_new X172 hx hby at_89 (pc' := 92) rfl hZ hown (hw _ (List.mem_of_getElem? (i := 12) rfl)) (hw _ (List.mem_of_getElem? (i := 13) rfl)) (hw _ (List.mem_of_getElem? (i := 14) rfl)) rfl (by decide) (by decide) ?_
  intro T173 h173 b173 X173 e173 g173 E173 A173 D173
  have F173_data : Fld Z h173 b173 "com/example/tag_weighted_rank/tagweightedrank/Postings" "data" "[I" .null := D173 (Or.inl (hw _ (List.mem_of_getElem? (i := 27) rfl))) (ty := (.array .int)) (by decide)
  have F173_length : Fld Z h173 b173 "com/example/tag_weighted_rank/tagweightedrank/Postings" "length" "I" (.int (0 : Int32)) := D173 (Or.inl (hw _ (List.mem_of_getElem? (i := 29) rfl))) (ty := .int) (by decide)
  have l173 : n0 ≤ b173 := (Nat.le_trans Z0 (Nat.le_trans (Nat.le_trans (Nat.le_trans (Nat.le_trans (Nat.le_trans (Nat.le_trans (Nat.le_trans (Nat.le_refl _) K167.1) K168.1) K169.1) K170.1) K171.1) K172.1) (Nat.le_of_eq g173.symm)))
  refine own_dup X173 hx hby at_92 (pc' := 93) rfl rfl ?_
  refine own_callSp X173 hx hZ (rm_i1 l Z a0 hw [] b173 h173 n0 ((((((((O_0.keep K167 all0).keep K168 all0).keep K169 all0).keep K170 all0).keep K171 all0).keep K172 all0).ext E173)) S_S (A173) (F173_data) (F173_length) l173) rfl hown (hw _ (List.mem_of_getElem? (i := 15) rfl)) (hw _ (List.mem_of_getElem? (i := 16) rfl)) (hw _ (List.mem_of_getElem? (i := 17) rfl)) (hw _ (List.mem_of_getElem? (i := 14) rfl)) (by decide) (W := 1) (by decide) (by decide) (by rw [hml]; rfl) (argsL := []) (rest := [(.ref b173)]) rfl (lenOf own_pd6 rfl) rfl (Nat.le_of_eq rfl) (hb hby at_93) e173 (by decide) (by decide) ?_
  intro v174 T174 L174 X174 hQ174
  obtain ⟨d174, hv174, N174q, K174, g174, E174, F174, G174, A174⟩ := hQ174
  subst hv174
  have N174 := Fr.app N172 N174q
  have l174 : n0 ≤ d174 := (Nat.le_trans Z0 (Nat.le_trans (Nat.le_trans (Nat.le_trans (Nat.le_trans (Nat.le_trans (Nat.le_trans (Nat.le_trans (Nat.le_trans (Nat.le_refl _) K167.1) K168.1) K169.1) K170.1) K171.1) K172.1) E173.1) g174))
  show own_Go p.tables e below (T174.setTop (mkF m 96 #[.val (.int p1), .val (.int p2), .val (.int p3), .val (.int p4), .val (.int p5), .val (.int p6), .val (.int (p1 &&& (3 : Int32))), .val (.ref b167), .val (.ref b168), .val (.ref b169), .val (.ref b170), .val (.ref b171), .val (.ref b172), .val (.int (p2 &&& (7 : Int32))), .val (.int (((p2 &&& (7 : Int32)) + (1 : Int32)) + (((p2.toUInt32 >>> ((3 : Int32) &&& 31).toUInt32).toInt32) &&& (7 : Int32)))), .val (.int (((((p2 &&& (7 : Int32)) + (1 : Int32)) + (((p2.toUInt32 >>> ((3 : Int32) &&& 31).toUInt32).toInt32) &&& (7 : Int32))) + (1 : Int32)) + (((p2.toUInt32 >>> ((6 : Int32) &&& 31).toUInt32).toInt32) &&& (7 : Int32)))), .unset, .unset] [(.ref b173)])) _
  refine own_astore X174 hx hby at_96 (pc' := 98) rfl rfl (Ls' := #[.val (.int p1), .val (.int p2), .val (.int p3), .val (.int p4), .val (.int p5), .val (.int p6), .val (.int (p1 &&& (3 : Int32))), .val (.ref b167), .val (.ref b168), .val (.ref b169), .val (.ref b170), .val (.ref b171), .val (.ref b172), .val (.int (p2 &&& (7 : Int32))), .val (.int (((p2 &&& (7 : Int32)) + (1 : Int32)) + (((p2.toUInt32 >>> ((3 : Int32) &&& 31).toUInt32).toInt32) &&& (7 : Int32)))), .val (.int (((((p2 &&& (7 : Int32)) + (1 : Int32)) + (((p2.toUInt32 >>> ((3 : Int32) &&& 31).toUInt32).toInt32) &&& (7 : Int32))) + (1 : Int32)) + (((p2.toUInt32 >>> ((6 : Int32) &&& 31).toUInt32).toInt32) &&& (7 : Int32)))), .val (.ref b173), .unset]) rfl ?_
  refine own_iload X174 hx hby at_98 (pc' := 100) rfl rfl ?_
  by_cases hc100 : (0 : Int32) < (p1 &&& (3 : Int32))
  · skip
    refine own_ifNo X174 hx hby at_100 (pc' := 103) rfl (tlt hc100).2.2.2 ?_
    refine own_aload X174 hx hby at_103 (pc' := 105) rfl rfl rfl ?_
    refine own_iload X174 hx hby at_105 (pc' := 107) rfl rfl ?_
    refine own_aload X174 hx hby at_107 (pc' := 109) rfl rfl rfl ?_
    refine own_aload X174 hx hby at_109 (pc' := 111) rfl rfl rfl ?_
    refine own_callV X174 hx hZ (rm_add1 l Z a0 hw [] b173 (p2 &&& (7 : Int32)) b167 b170 d174 aC vC y0_167 y1_167 y2_167 y3_167 y4_167 y5_167 m0_170 m1_170  T174.heap n0 (((((((((O_0.keep K167 all0).keep K168 all0).keep K169 all0).keep K170 all0).keep K171 all0).keep K172 all0).ext E173).keep K174 (allS l173 all0))) S_S S_M S_C A_C hC (E174) (F174) (G174) l173 l174 (A174) ((((((((A167.keep K168 nin0).keep K169 nin0).keep K170 nin0).keep K171 nin0).keep K172 nin0).ext E173).keep K174 (ninS (Nat.ne_of_lt (Nat.lt_of_lt_of_le (Nat.lt_of_lt_of_le (Nat.lt_of_lt_of_le (Nat.lt_of_lt_of_le (Nat.lt_of_lt_of_le (Nat.lt_of_lt_of_le (A167).lt K168.1) K169.1) K170.1) K171.1) K172.1) (Nat.le_of_eq g173.symm))) nin0))) (((((A170.keep K171 nin0).keep K172 nin0).ext E173).keep K174 (ninS (Nat.ne_of_lt (Nat.lt_of_lt_of_le (Nat.lt_of_lt_of_le (Nat.lt_of_lt_of_le (A170).lt K171.1) K172.1) (Nat.le_of_eq g173.symm))) nin0))) (Nat.ne_of_lt (Nat.lt_of_lt_of_le (Nat.lt_of_lt_of_le (Nat.lt_of_lt_of_le (Nat.lt_of_lt_of_le (Nat.lt_of_lt_of_le (Nat.lt_of_lt_of_le (Nat.lt_of_lt_of_le (A167).lt K168.1) K169.1) K170.1) K171.1) K172.1) E173.1) g174)) (Nat.ne_of_lt (Nat.lt_of_lt_of_le (Nat.lt_of_lt_of_le (Nat.lt_of_lt_of_le (Nat.lt_of_lt_of_le (A170).lt K171.1) K172.1) E173.1) g174)) (Ne.symm (Nat.ne_of_lt (Nat.lt_of_lt_of_le (Nat.lt_of_lt_of_le (Nat.lt_of_lt_of_le (Nat.lt_of_lt_of_le (Nat.lt_of_lt_of_le (Nat.lt_of_lt_of_le (A167).lt K168.1) K169.1) K170.1) K171.1) K172.1) (Nat.le_of_eq g173.symm)))) (Ne.symm (Nat.ne_of_lt (Nat.lt_of_lt_of_le (Nat.lt_of_lt_of_le (Nat.lt_of_lt_of_le (A170).lt K171.1) K172.1) (Nat.le_of_eq g173.symm))))) hown (hw _ (List.mem_of_getElem? (i := 43) rfl)) (hw _ (List.mem_of_getElem? (i := 44) rfl)) (hw _ (List.mem_of_getElem? (i := 46) rfl)) (hw _ (List.mem_of_getElem? (i := 45) rfl)) (hw _ (List.mem_of_getElem? (i := 47) rfl)) (hw _ (List.mem_of_getElem? (i := 14) rfl)) (by decide) E174 (W := 0) (by decide) (by decide) (by rw [hml]; rfl) (argsL := [(.int (p2 &&& (7 : Int32))), (.ref b167), (.ref b170)]) (rest := []) rfl (lenOf own_pd7 rfl) rfl (Nat.le_of_eq rfl) (hb hby at_111) rfl (by decide) (by decide) ?_
    intro v175 T175 L175 X175 hQ175
    obtain ⟨hv175, N175q, K175, E175, F175, G175, A175⟩ := hQ175
    subst hv175
    have N175 := Fr.app N174 N175q
    show own_Go p.tables e below (T175.setTop (mkF m 114 #[.val (.int p1), .val (.int p2), .val (.int p3), .val (.int p4), .val (.int p5), .val (.int p6), .val (.int (p1 &&& (3 : Int32))), .val (.ref b167), .val (.ref b168), .val (.ref b169), .val (.ref b170), .val (.ref b171), .val (.ref b172), .val (.int (p2 &&& (7 : Int32))), .val (.int (((p2 &&& (7 : Int32)) + (1 : Int32)) + (((p2.toUInt32 >>> ((3 : Int32) &&& 31).toUInt32).toInt32) &&& (7 : Int32)))), .val (.int (((((p2 &&& (7 : Int32)) + (1 : Int32)) + (((p2.toUInt32 >>> ((3 : Int32) &&& 31).toUInt32).toInt32) &&& (7 : Int32))) + (1 : Int32)) + (((p2.toUInt32 >>> ((6 : Int32) &&& 31).toUInt32).toInt32) &&& (7 : Int32)))), .val (.ref b173), .unset] [])) _
    refine own_iload X175 hx hby at_114 (pc' := 116) rfl rfl ?_
    refine own_iconst X175 hx hby at_116 (pc' := 117) rfl (z := (1 : Int32)) (by decide) ?_
    by_cases hc117 : (1 : Int32) < (p1 &&& (3 : Int32))
    · skip
      refine own_icmpNo X175 hx hby at_117 (pc' := 120) rfl (tlt hc117).2.2.2 ?_
      refine own_aload X175 hx hby at_120 (pc' := 122) rfl rfl rfl ?_
      refine own_iload X175 hx hby at_122 (pc' := 124) rfl rfl ?_
      refine own_aload X175 hx hby at_124 (pc' := 126) rfl rfl rfl ?_
      refine own_aload X175 hx hby at_126 (pc' := 128) rfl rfl rfl ?_
      refine own_callV X175 hx hZ (rm_add2 l Z a0 hw [] b173 (((p2 &&& (7 : Int32)) + (1 : Int32)) + (((p2.toUInt32 >>> ((3 : Int32) &&& 31).toUInt32).toInt32) &&& (7 : Int32))) b168 b171 d174 aC vC y0_168 y1_168 y2_168 y3_168 y4_168 y5_168 m0_171 m1_171 (p2 &&& (7 : Int32)) y0_167 y1_167 y2_167 y3_167 y4_167 y5_167 m0_170 m1_170 T175.heap n0 ((((((((((O_0.keep K167 all0).keep K168 all0).keep K169 all0).keep K170 all0).keep K171 all0).keep K172 all0).ext E173).keep K174 (allS l173 all0)).keep K175 (allS l173 (allS l174 all0)))) S_S S_M S_C A_C hC (E175) (F175) (G175) l173 l174 (A175) ((((((((A168.keep K169 nin0).keep K170 nin0).keep K171 nin0).keep K172 nin0).ext E173).keep K174 (ninS (Nat.ne_of_lt (Nat.lt_of_lt_of_le (Nat.lt_of_lt_of_le (Nat.lt_of_lt_of_le (Nat.lt_of_lt_of_le (Nat.lt_of_lt_of_le (A168).lt K169.1) K170.1) K171.1) K172.1) (Nat.le_of_eq g173.symm))) nin0)).keep K175 (ninS (Nat.ne_of_lt (Nat.lt_of_lt_of_le (Nat.lt_of_lt_of_le (Nat.lt_of_lt_of_le (Nat.lt_of_lt_of_le (Nat.lt_of_lt_of_le (A168).lt K169.1) K170.1) K171.1) K172.1) (Nat.le_of_eq g173.symm))) (ninS (Nat.ne_of_lt (Nat.lt_of_lt_of_le (Nat.lt_of_lt_of_le (Nat.lt_of_lt_of_le (Nat.lt_of_lt_of_le (Nat.lt_of_lt_of_le (Nat.lt_of_lt_of_le (A168).lt K169.1) K170.1) K171.1) K172.1) E173.1) g174)) nin0)))) (((((A171.keep K172 nin0).ext E173).keep K174 (ninS (Nat.ne_of_lt (Nat.lt_of_lt_of_le (Nat.lt_of_lt_of_le (A171).lt K172.1) (Nat.le_of_eq g173.symm))) nin0)).keep K175 (ninS (Nat.ne_of_lt (Nat.lt_of_lt_of_le (Nat.lt_of_lt_of_le (A171).lt K172.1) (Nat.le_of_eq g173.symm))) (ninS (Nat.ne_of_lt (Nat.lt_of_lt_of_le (Nat.lt_of_lt_of_le (Nat.lt_of_lt_of_le (A171).lt K172.1) E173.1) g174)) nin0)))) (Nat.ne_of_lt (Nat.lt_of_lt_of_le (Nat.lt_of_lt_of_le (Nat.lt_of_lt_of_le (Nat.lt_of_lt_of_le (Nat.lt_of_lt_of_le (Nat.lt_of_lt_of_le (A168).lt K169.1) K170.1) K171.1) K172.1) E173.1) g174)) (Nat.ne_of_lt (Nat.lt_of_lt_of_le (Nat.lt_of_lt_of_le (Nat.lt_of_lt_of_le (A171).lt K172.1) E173.1) g174)) (Ne.symm (Nat.ne_of_lt (Nat.lt_of_lt_of_le (Nat.lt_of_lt_of_le (Nat.lt_of_lt_of_le (Nat.lt_of_lt_of_le (Nat.lt_of_lt_of_le (A168).lt K169.1) K170.1) K171.1) K172.1) (Nat.le_of_eq g173.symm)))) (Ne.symm (Nat.ne_of_lt (Nat.lt_of_lt_of_le (Nat.lt_of_lt_of_le (A171).lt K172.1) (Nat.le_of_eq g173.symm))))) hown (hw _ (List.mem_of_getElem? (i := 43) rfl)) (hw _ (List.mem_of_getElem? (i := 44) rfl)) (hw _ (List.mem_of_getElem? (i := 46) rfl)) (hw _ (List.mem_of_getElem? (i := 45) rfl)) (hw _ (List.mem_of_getElem? (i := 47) rfl)) (hw _ (List.mem_of_getElem? (i := 14) rfl)) (by decide) E175 (W := 0) (by decide) (by decide) (by rw [hml]; rfl) (argsL := [(.int (((p2 &&& (7 : Int32)) + (1 : Int32)) + (((p2.toUInt32 >>> ((3 : Int32) &&& 31).toUInt32).toInt32) &&& (7 : Int32)))), (.ref b168), (.ref b171)]) (rest := []) rfl (lenOf own_pd7 rfl) rfl (Nat.le_of_eq rfl) (hb hby at_128) rfl (by decide) (by decide) ?_
      intro v176 T176 L176 X176 hQ176
      obtain ⟨d176, hv176, N176q, K176, g176, E176, F176, G176, A176⟩ := hQ176
      subst hv176
      have N176 := Fr.app N175 N176q
      have l176 : n0 ≤ d176 := (Nat.le_trans Z0 (Nat.le_trans (Nat.le_trans (Nat.le_trans (Nat.le_trans (Nat.le_trans (Nat.le_trans (Nat.le_trans (Nat.le_trans (Nat.le_trans (Nat.le_trans (Nat.le_refl _) K167.1) K168.1) K169.1) K170.1) K171.1) K172.1) E173.1) K174.1) K175.1) g176))
      show own_Go p.tables e below (T176.setTop (mkF m 131 #[.val (.int p1), .val (.int p2), .val (.int p3), .val (.int p4), .val (.int p5), .val (.int p6), .val (.int (p1 &&& (3 : Int32))), .val (.ref b167), .val (.ref b168), .val (.ref b169), .val (.ref b170), .val (.ref b171), .val (.ref b172), .val (.int (p2 &&& (7 : Int32))), .val (.int (((p2 &&& (7 : Int32)) + (1 : Int32)) + (((p2.toUInt32 >>> ((3 : Int32) &&& 31).toUInt32).toInt32) &&& (7 : Int32)))), .val (.int (((((p2 &&& (7 : Int32)) + (1 : Int32)) + (((p2.toUInt32 >>> ((3 : Int32) &&& 31).toUInt32).toInt32) &&& (7 : Int32))) + (1 : Int32)) + (((p2.toUInt32 >>> ((6 : Int32) &&& 31).toUInt32).toInt32) &&& (7 : Int32)))), .val (.ref b173), .unset] [])) _
      refine own_iload X176 hx hby at_131 (pc' := 133) rfl rfl ?_
      refine own_iconst X176 hx hby at_133 (pc' := 134) rfl (z := (2 : Int32)) (by decide) ?_
      by_cases hc134 : (2 : Int32) < (p1 &&& (3 : Int32))
      · skip
        refine own_icmpNo X176 hx hby at_134 (pc' := 137) rfl (tlt hc134).2.2.2 ?_
        refine own_aload X176 hx hby at_137 (pc' := 139) rfl rfl rfl ?_
        refine own_iload X176 hx hby at_139 (pc' := 141) rfl rfl ?_
        refine own_aload X176 hx hby at_141 (pc' := 143) rfl rfl rfl ?_
        refine own_aload X176 hx hby at_143 (pc' := 145) rfl rfl rfl ?_
        refine own_callV X176 hx hZ (rm_add3 l Z a0 hw [] b173 (((((p2 &&& (7 : Int32)) + (1 : Int32)) + (((p2.toUInt32 >>> ((3 : Int32) &&& 31).toUInt32).toInt32) &&& (7 : Int32))) + (1 : Int32)) + (((p2.toUInt32 >>> ((6 : Int32) &&& 31).toUInt32).toInt32) &&& (7 : Int32))) b169 b172 d176 aC vC y0_169 y1_169 y2_169 y3_169 y4_169 y5_169 m0_172 m1_172 (p2 &&& (7 : Int32)) y0_167 y1_167 y2_167 y3_167 y4_167 y5_167 m0_170 m1_170 (((p2 &&& (7 : Int32)) + (1 : Int32)) + (((p2.toUInt32 >>> ((3 : Int32) &&& 31).toUInt32).toInt32) &&& (7 : Int32))) y0_168 y1_168 y2_168 y3_168 y4_168 y5_168 m0_171 m1_171 T176.heap n0 (((((((((((O_0.keep K167 all0).keep K168 all0).keep K169 all0).keep K170 all0).keep K171 all0).keep K172 all0).ext E173).keep K174 (allS l173 all0)).keep K175 (allS l173 (allS l174 all0))).keep K176 (allS l173 all0))) S_S S_M S_C A_C hC (E176) (F176) (G176) l173 l176 (A176) ((((((((A169.keep K170 nin0).keep K171 nin0).keep K172 nin0).ext E173).keep K174 (ninS (Nat.ne_of_lt (Nat.lt_of_lt_of_le (Nat.lt_of_lt_of_le (Nat.lt_of_lt_of_le (Nat.lt_of_lt_of_le (A169).lt K170.1) K171.1) K172.1) (Nat.le_of_eq g173.symm))) nin0)).keep K175 (ninS (Nat.ne_of_lt (Nat.lt_of_lt_of_le (Nat.lt_of_lt_of_le (Nat.lt_of_lt_of_le (Nat.lt_of_lt_of_le (A169).lt K170.1) K171.1) K172.1) (Nat.le_of_eq g173.symm))) (ninS (Nat.ne_of_lt (Nat.lt_of_lt_of_le (Nat.lt_of_lt_of_le (Nat.lt_of_lt_of_le (Nat.lt_of_lt_of_le (Nat.lt_of_lt_of_le (A169).lt K170.1) K171.1) K172.1) E173.1) g174)) nin0))).keep K176 (ninS (Nat.ne_of_lt (Nat.lt_of_lt_of_le (Nat.lt_of_lt_of_le (Nat.lt_of_lt_of_le (Nat.lt_of_lt_of_le (A169).lt K170.1) K171.1) K172.1) (Nat.le_of_eq g173.symm))) nin0))) (((((A172.ext E173).keep K174 (ninS (Nat.ne_of_lt (Nat.lt_of_lt_of_le (A172).lt (Nat.le_of_eq g173.symm))) nin0)).keep K175 (ninS (Nat.ne_of_lt (Nat.lt_of_lt_of_le (A172).lt (Nat.le_of_eq g173.symm))) (ninS (Nat.ne_of_lt (Nat.lt_of_lt_of_le (Nat.lt_of_lt_of_le (A172).lt E173.1) g174)) nin0))).keep K176 (ninS (Nat.ne_of_lt (Nat.lt_of_lt_of_le (A172).lt (Nat.le_of_eq g173.symm))) nin0))) (Nat.ne_of_lt (Nat.lt_of_lt_of_le (Nat.lt_of_lt_of_le (Nat.lt_of_lt_of_le (Nat.lt_of_lt_of_le (Nat.lt_of_lt_of_le (Nat.lt_of_lt_of_le (Nat.lt_of_lt_of_le (A169).lt K170.1) K171.1) K172.1) E173.1) K174.1) K175.1) g176)) (Nat.ne_of_lt (Nat.lt_of_lt_of_le (Nat.lt_of_lt_of_le (Nat.lt_of_lt_of_le (Nat.lt_of_lt_of_le (A172).lt E173.1) K174.1) K175.1) g176)) (Ne.symm (Nat.ne_of_lt (Nat.lt_of_lt_of_le (Nat.lt_of_lt_of_le (Nat.lt_of_lt_of_le (Nat.lt_of_lt_of_le (A169).lt K170.1) K171.1) K172.1) (Nat.le_of_eq g173.symm)))) (Ne.symm (Nat.ne_of_lt (Nat.lt_of_lt_of_le (A172).lt (Nat.le_of_eq g173.symm))))) hown (hw _ (List.mem_of_getElem? (i := 43) rfl)) (hw _ (List.mem_of_getElem? (i := 44) rfl)) (hw _ (List.mem_of_getElem? (i := 46) rfl)) (hw _ (List.mem_of_getElem? (i := 45) rfl)) (hw _ (List.mem_of_getElem? (i := 47) rfl)) (hw _ (List.mem_of_getElem? (i := 14) rfl)) (by decide) E176 (W := 0) (by decide) (by decide) (by rw [hml]; rfl) (argsL := [(.int (((((p2 &&& (7 : Int32)) + (1 : Int32)) + (((p2.toUInt32 >>> ((3 : Int32) &&& 31).toUInt32).toInt32) &&& (7 : Int32))) + (1 : Int32)) + (((p2.toUInt32 >>> ((6 : Int32) &&& 31).toUInt32).toInt32) &&& (7 : Int32)))), (.ref b169), (.ref b172)]) (rest := []) rfl (lenOf own_pd7 rfl) rfl (Nat.le_of_eq rfl) (hb hby at_145) rfl (by decide) (by decide) ?_
        intro v177 T177 L177 X177 hQ177
        obtain ⟨d177, hv177, N177q, K177, g177, E177, F177, G177, A177⟩ := hQ177
        subst hv177
        have N177 := Fr.app N176 N177q
        have l177 : n0 ≤ d177 := (Nat.le_trans Z0 (Nat.le_trans (Nat.le_trans (Nat.le_trans (Nat.le_trans (Nat.le_trans (Nat.le_trans (Nat.le_trans (Nat.le_trans (Nat.le_trans (Nat.le_trans (Nat.le_trans (Nat.le_refl _) K167.1) K168.1) K169.1) K170.1) K171.1) K172.1) E173.1) K174.1) K175.1) K176.1) g177))
        show own_Go p.tables e below (T177.setTop (mkF m 148 #[.val (.int p1), .val (.int p2), .val (.int p3), .val (.int p4), .val (.int p5), .val (.int p6), .val (.int (p1 &&& (3 : Int32))), .val (.ref b167), .val (.ref b168), .val (.ref b169), .val (.ref b170), .val (.ref b171), .val (.ref b172), .val (.int (p2 &&& (7 : Int32))), .val (.int (((p2 &&& (7 : Int32)) + (1 : Int32)) + (((p2.toUInt32 >>> ((3 : Int32) &&& 31).toUInt32).toInt32) &&& (7 : Int32)))), .val (.int (((((p2 &&& (7 : Int32)) + (1 : Int32)) + (((p2.toUInt32 >>> ((3 : Int32) &&& 31).toUInt32).toInt32) &&& (7 : Int32))) + (1 : Int32)) + (((p2.toUInt32 >>> ((6 : Int32) &&& 31).toUInt32).toInt32) &&& (7 : Int32)))), .val (.ref b173), .unset] [])) _
        refine own_aload X177 hx hby at_148 (pc' := 150) rfl rfl rfl ?_
        refine own_callV X177 hx hZ (rm_cs3 l Z a0 hw [] b173 d177 aC vC (p2 &&& (7 : Int32)) y0_167 y1_167 y2_167 y3_167 y4_167 y5_167 m0_170 m1_170 (((p2 &&& (7 : Int32)) + (1 : Int32)) + (((p2.toUInt32 >>> ((3 : Int32) &&& 31).toUInt32).toInt32) &&& (7 : Int32))) y0_168 y1_168 y2_168 y3_168 y4_168 y5_168 m0_171 m1_171 (((((p2 &&& (7 : Int32)) + (1 : Int32)) + (((p2.toUInt32 >>> ((3 : Int32) &&& 31).toUInt32).toInt32) &&& (7 : Int32))) + (1 : Int32)) + (((p2.toUInt32 >>> ((6 : Int32) &&& 31).toUInt32).toInt32) &&& (7 : Int32))) y0_169 y1_169 y2_169 y3_169 y4_169 y5_169 m0_172 m1_172 T177.heap n0 ((((((((((((O_0.keep K167 all0).keep K168 all0).keep K169 all0).keep K170 all0).keep K171 all0).keep K172 all0).ext E173).keep K174 (allS l173 all0)).keep K175 (allS l173 (allS l174 all0))).keep K176 (allS l173 all0)).keep K177 (allS l173 all0))) S_S S_C A_C hC (E177) (F177) (G177) (A177)) hown (hw _ (List.mem_of_getElem? (i := 30) rfl)) (hw _ (List.mem_of_getElem? (i := 31) rfl)) (hw _ (List.mem_of_getElem? (i := 33) rfl)) (hw _ (List.mem_of_getElem? (i := 32) rfl)) (hw _ (List.mem_of_getElem? (i := 34) rfl)) (hw _ (List.mem_of_getElem? (i := 14) rfl)) (by decide) E177 (W := 0) (by decide) (by decide) (by rw [hml]; rfl) (argsL := []) (rest := []) rfl (lenOf own_pd8 rfl) rfl (Nat.le_of_eq rfl) (hb hby at_150) rfl (by decide) (by decide) ?_
        intro v178 T178 L178 X178 hQ178
        obtain ⟨b178, hv178, N178q, K178, g178, A178⟩ := hQ178
        subst hv178
        have N178 := Fr.app N177 N178q
        show own_Go p.tables e below (T178.setTop (mkF m 153 #[.val (.int p1), .val (.int p2), .val (.int p3), .val (.int p4), .val (.int p5), .val (.int p6), .val (.int (p1 &&& (3 : Int32))), .val (.ref b167), .val (.ref b168), .val (.ref b169), .val (.ref b170), .val (.ref b171), .val (.ref b172), .val (.int (p2 &&& (7 : Int32))), .val (.int (((p2 &&& (7 : Int32)) + (1 : Int32)) + (((p2.toUInt32 >>> ((3 : Int32) &&& 31).toUInt32).toInt32) &&& (7 : Int32)))), .val (.int (((((p2 &&& (7 : Int32)) + (1 : Int32)) + (((p2.toUInt32 >>> ((3 : Int32) &&& 31).toUInt32).toInt32) &&& (7 : Int32))) + (1 : Int32)) + (((p2.toUInt32 >>> ((6 : Int32) &&& 31).toUInt32).toInt32) &&& (7 : Int32)))), .val (.ref b173), .unset] [(.ref b178)])) _
        refine own_astore X178 hx hby at_153 (pc' := 155) rfl rfl (Ls' := #[.val (.int p1), .val (.int p2), .val (.int p3), .val (.int p4), .val (.int p5), .val (.int p6), .val (.int (p1 &&& (3 : Int32))), .val (.ref b167), .val (.ref b168), .val (.ref b169), .val (.ref b170), .val (.ref b171), .val (.ref b172), .val (.int (p2 &&& (7 : Int32))), .val (.int (((p2 &&& (7 : Int32)) + (1 : Int32)) + (((p2.toUInt32 >>> ((3 : Int32) &&& 31).toUInt32).toInt32) &&& (7 : Int32)))), .val (.int (((((p2 &&& (7 : Int32)) + (1 : Int32)) + (((p2.toUInt32 >>> ((3 : Int32) &&& 31).toUInt32).toInt32) &&& (7 : Int32))) + (1 : Int32)) + (((p2.toUInt32 >>> ((6 : Int32) &&& 31).toUInt32).toInt32) &&& (7 : Int32)))), .val (.ref b173), .val (.ref b178)]) rfl ?_
        refine own_aload X178 hx hby at_155 (pc' := 157) rfl rfl rfl ?_
        refine own_len X178 hx hby at_157 (pc' := 158) rfl hZ rfl (A178) (n := (6 : Int32)) (by rfl) ?_
        refine own_bipush X178 hx hby at_158 (pc' := 160) rfl (z := (6 : Int32)) (by decide) ?_
        refine own_icmpYes X178 hx hby at_160 (pc' := 165) (by decide) (by decide) ?_
        refine own_aload X178 hx hby at_165 (pc' := 167) rfl rfl rfl ?_
        refine own_iconst X178 hx hby at_167 (pc' := 168) rfl (z := (0 : Int32)) (by decide) ?_
        refine own_iaload X178 hx hby at_168 (pc' := 169) rfl hZ rfl (A178) (by decide) (v := (.int (own_up (own_up (own_up (0 : Int32) y0_167) y0_168) y0_169))) rfl ?_
        refine own_aload X178 hx hby at_169 (pc' := 171) rfl rfl rfl ?_
        refine own_aload X178 hx hby at_171 (pc' := 173) rfl rfl rfl ?_
        refine own_aload X178 hx hby at_173 (pc' := 175) rfl rfl rfl ?_
        refine own_iload X178 hx hby at_175 (pc' := 177) rfl rfl ?_
        refine own_iconst X178 hx hby at_177 (pc' := 178) rfl (z := (0 : Int32)) (by decide) ?_
        refine own_callS X178 hx hZ (rm_ex l Z a0 hw [] b167 b168 b169 (p1 &&& (3 : Int32)) (0 : Int32) y0_167 y0_168 y0_169 [(.int y0_167), (.int y1_167), (.int y2_167), (.int y3_167), (.int y4_167), (.int y5_167)] [(.int y0_168), (.int y1_168), (.int y2_168), (.int y3_168), (.int y4_168), (.int y5_168)] [(.int y0_169), (.int y1_169), (.int y2_169), (.int y3_169), (.int y4_169), (.int y5_169)] T178.heap n0 ((((((((((((A167.keep K168 nin0).keep K169 nin0).keep K170 nin0).keep K171 nin0).keep K172 nin0).ext E173).keep K174 (ninS (Nat.ne_of_lt (Nat.lt_of_lt_of_le (Nat.lt_of_lt_of_le (Nat.lt_of_lt_of_le (Nat.lt_of_lt_of_le (Nat.lt_of_lt_of_le (Nat.lt_of_lt_of_le (A167).lt K168.1) K169.1) K170.1) K171.1) K172.1) (Nat.le_of_eq g173.symm))) nin0)).keep K175 (ninS (Nat.ne_of_lt (Nat.lt_of_lt_of_le (Nat.lt_of_lt_of_le (Nat.lt_of_lt_of_le (Nat.lt_of_lt_of_le (Nat.lt_of_lt_of_le (Nat.lt_of_lt_of_le (A167).lt K168.1) K169.1) K170.1) K171.1) K172.1) (Nat.le_of_eq g173.symm))) (ninS (Nat.ne_of_lt (Nat.lt_of_lt_of_le (Nat.lt_of_lt_of_le (Nat.lt_of_lt_of_le (Nat.lt_of_lt_of_le (Nat.lt_of_lt_of_le (Nat.lt_of_lt_of_le (Nat.lt_of_lt_of_le (A167).lt K168.1) K169.1) K170.1) K171.1) K172.1) E173.1) g174)) nin0))).keep K176 (ninS (Nat.ne_of_lt (Nat.lt_of_lt_of_le (Nat.lt_of_lt_of_le (Nat.lt_of_lt_of_le (Nat.lt_of_lt_of_le (Nat.lt_of_lt_of_le (Nat.lt_of_lt_of_le (A167).lt K168.1) K169.1) K170.1) K171.1) K172.1) (Nat.le_of_eq g173.symm))) nin0)).keep K177 (ninS (Nat.ne_of_lt (Nat.lt_of_lt_of_le (Nat.lt_of_lt_of_le (Nat.lt_of_lt_of_le (Nat.lt_of_lt_of_le (Nat.lt_of_lt_of_le (Nat.lt_of_lt_of_le (A167).lt K168.1) K169.1) K170.1) K171.1) K172.1) (Nat.le_of_eq g173.symm))) nin0)).keep K178 nin0)) (((((((((((A168.keep K169 nin0).keep K170 nin0).keep K171 nin0).keep K172 nin0).ext E173).keep K174 (ninS (Nat.ne_of_lt (Nat.lt_of_lt_of_le (Nat.lt_of_lt_of_le (Nat.lt_of_lt_of_le (Nat.lt_of_lt_of_le (Nat.lt_of_lt_of_le (A168).lt K169.1) K170.1) K171.1) K172.1) (Nat.le_of_eq g173.symm))) nin0)).keep K175 (ninS (Nat.ne_of_lt (Nat.lt_of_lt_of_le (Nat.lt_of_lt_of_le (Nat.lt_of_lt_of_le (Nat.lt_of_lt_of_le (Nat.lt_of_lt_of_le (A168).lt K169.1) K170.1) K171.1) K172.1) (Nat.le_of_eq g173.symm))) (ninS (Nat.ne_of_lt (Nat.lt_of_lt_of_le (Nat.lt_of_lt_of_le (Nat.lt_of_lt_of_le (Nat.lt_of_lt_of_le (Nat.lt_of_lt_of_le (Nat.lt_of_lt_of_le (A168).lt K169.1) K170.1) K171.1) K172.1) E173.1) g174)) nin0))).keep K176 (ninS (Nat.ne_of_lt (Nat.lt_of_lt_of_le (Nat.lt_of_lt_of_le (Nat.lt_of_lt_of_le (Nat.lt_of_lt_of_le (Nat.lt_of_lt_of_le (A168).lt K169.1) K170.1) K171.1) K172.1) (Nat.le_of_eq g173.symm))) nin0)).keep K177 (ninS (Nat.ne_of_lt (Nat.lt_of_lt_of_le (Nat.lt_of_lt_of_le (Nat.lt_of_lt_of_le (Nat.lt_of_lt_of_le (Nat.lt_of_lt_of_le (A168).lt K169.1) K170.1) K171.1) K172.1) (Nat.le_of_eq g173.symm))) nin0)).keep K178 nin0)) ((((((((((A169.keep K170 nin0).keep K171 nin0).keep K172 nin0).ext E173).keep K174 (ninS (Nat.ne_of_lt (Nat.lt_of_lt_of_le (Nat.lt_of_lt_of_le (Nat.lt_of_lt_of_le (Nat.lt_of_lt_of_le (A169).lt K170.1) K171.1) K172.1) (Nat.le_of_eq g173.symm))) nin0)).keep K175 (ninS (Nat.ne_of_lt (Nat.lt_of_lt_of_le (Nat.lt_of_lt_of_le (Nat.lt_of_lt_of_le (Nat.lt_of_lt_of_le (A169).lt K170.1) K171.1) K172.1) (Nat.le_of_eq g173.symm))) (ninS (Nat.ne_of_lt (Nat.lt_of_lt_of_le (Nat.lt_of_lt_of_le (Nat.lt_of_lt_of_le (Nat.lt_of_lt_of_le (Nat.lt_of_lt_of_le (A169).lt K170.1) K171.1) K172.1) E173.1) g174)) nin0))).keep K176 (ninS (Nat.ne_of_lt (Nat.lt_of_lt_of_le (Nat.lt_of_lt_of_le (Nat.lt_of_lt_of_le (Nat.lt_of_lt_of_le (A169).lt K170.1) K171.1) K172.1) (Nat.le_of_eq g173.symm))) nin0)).keep K177 (ninS (Nat.ne_of_lt (Nat.lt_of_lt_of_le (Nat.lt_of_lt_of_le (Nat.lt_of_lt_of_le (Nat.lt_of_lt_of_le (A169).lt K170.1) K171.1) K172.1) (Nat.le_of_eq g173.symm))) nin0)).keep K178 nin0)) (by decide) rfl rfl rfl) hown (hw _ (List.mem_of_getElem? (i := 37) rfl)) (hw _ (List.mem_of_getElem? (i := 38) rfl)) (hw _ (List.mem_of_getElem? (i := 2) rfl)) (hw _ (List.mem_of_getElem? (i := 39) rfl)) (by decide) (W := 1) (by decide) (by decide) (by rw [hml]; rfl) (argsL := [(.ref b167), (.ref b168), (.ref b169), (.int (p1 &&& (3 : Int32))), (.int (0 : Int32))]) (rest := [(.int (own_up (own_up (own_up (0 : Int32) y0_167) y0_168) y0_169))]) rfl (lenOf own_pd9 rfl) rfl (Nat.le_of_eq rfl) (hb hby at_178) rfl (by decide) (by decide) ?_
        intro v179 T179 L179 X179 hQ179
        obtain ⟨hv179, N179q, e179⟩ := hQ179
        subst hv179
        have N179 := Fr.app N178 N179q
        show own_Go p.tables e below (T179.setTop (mkF m 181 #[.val (.int p1), .val (.int p2), .val (.int p3), .val (.int p4), .val (.int p5), .val (.int p6), .val (.int (p1 &&& (3 : Int32))), .val (.ref b167), .val (.ref b168), .val (.ref b169), .val (.ref b170), .val (.ref b171), .val (.ref b172), .val (.int (p2 &&& (7 : Int32))), .val (.int (((p2 &&& (7 : Int32)) + (1 : Int32)) + (((p2.toUInt32 >>> ((3 : Int32) &&& 31).toUInt32).toInt32) &&& (7 : Int32)))), .val (.int (((((p2 &&& (7 : Int32)) + (1 : Int32)) + (((p2.toUInt32 >>> ((3 : Int32) &&& 31).toUInt32).toInt32) &&& (7 : Int32))) + (1 : Int32)) + (((p2.toUInt32 >>> ((6 : Int32) &&& 31).toUInt32).toInt32) &&& (7 : Int32)))), .val (.ref b173), .val (.ref b178)] [(.int (own_ex (p1 &&& (3 : Int32)) y0_167 y0_168 y0_169)), (.int (own_up (own_up (own_up (0 : Int32) y0_167) y0_168) y0_169))])) _
        refine own_icmpNo X179 hx hby at_181 (pc' := 184) rfl (teq (own_fin3 hc100 hc117 hc134)).2 ?_
        refine own_aload X179 hx hby at_184 (pc' := 186) rfl rfl rfl ?_
        refine own_iconst X179 hx hby at_186 (pc' := 187) rfl (z := (1 : Int32)) (by decide) ?_
        refine own_iaload X179 hx hby at_187 (pc' := 188) rfl hZ e179 (A178) (by decide) (v := (.int (own_up (own_up (own_up (0 : Int32) y1_167) y1_168) y1_169))) rfl ?_
        refine own_aload X179 hx hby at_188 (pc' := 190) rfl rfl rfl ?_
        refine own_aload X179 hx hby at_190 (pc' := 192) rfl rfl rfl ?_
        refine own_aload X179 hx hby at_192 (pc' := 194) rfl rfl rfl ?_
        refine own_iload X179 hx hby at_194 (pc' := 196) rfl rfl ?_
        refine own_iconst X179 hx hby at_196 (pc' := 197) rfl (z := (1 : Int32)) (by decide) ?_
        refine own_callS X179 hx hZ (rm_ex l Z a0 hw [] b167 b168 b169 (p1 &&& (3 : Int32)) (1 : Int32) y1_167 y1_168 y1_169 [(.int y0_167), (.int y1_167), (.int y2_167), (.int y3_167), (.int y4_167), (.int y5_167)] [(.int y0_168), (.int y1_168), (.int y2_168), (.int y3_168), (.int y4_168), (.int y5_168)] [(.int y0_169), (.int y1_169), (.int y2_169), (.int y3_169), (.int y4_169), (.int y5_169)] T178.heap n0 ((((((((((((A167.keep K168 nin0).keep K169 nin0).keep K170 nin0).keep K171 nin0).keep K172 nin0).ext E173).keep K174 (ninS (Nat.ne_of_lt (Nat.lt_of_lt_of_le (Nat.lt_of_lt_of_le (Nat.lt_of_lt_of_le (Nat.lt_of_lt_of_le (Nat.lt_of_lt_of_le (Nat.lt_of_lt_of_le (A167).lt K168.1) K169.1) K170.1) K171.1) K172.1) (Nat.le_of_eq g173.symm))) nin0)).keep K175 (ninS (Nat.ne_of_lt (Nat.lt_of_lt_of_le (Nat.lt_of_lt_of_le (Nat.lt_of_lt_of_le (Nat.lt_of_lt_of_le (Nat.lt_of_lt_of_le (Nat.lt_of_lt_of_le (A167).lt K168.1) K169.1) K170.1) K171.1) K172.1) (Nat.le_of_eq g173.symm))) (ninS (Nat.ne_of_lt (Nat.lt_of_lt_of_le (Nat.lt_of_lt_of_le (Nat.lt_of_lt_of_le (Nat.lt_of_lt_of_le (Nat.lt_of_lt_of_le (Nat.lt_of_lt_of_le (Nat.lt_of_lt_of_le (A167).lt K168.1) K169.1) K170.1) K171.1) K172.1) E173.1) g174)) nin0))).keep K176 (ninS (Nat.ne_of_lt (Nat.lt_of_lt_of_le (Nat.lt_of_lt_of_le (Nat.lt_of_lt_of_le (Nat.lt_of_lt_of_le (Nat.lt_of_lt_of_le (Nat.lt_of_lt_of_le (A167).lt K168.1) K169.1) K170.1) K171.1) K172.1) (Nat.le_of_eq g173.symm))) nin0)).keep K177 (ninS (Nat.ne_of_lt (Nat.lt_of_lt_of_le (Nat.lt_of_lt_of_le (Nat.lt_of_lt_of_le (Nat.lt_of_lt_of_le (Nat.lt_of_lt_of_le (Nat.lt_of_lt_of_le (A167).lt K168.1) K169.1) K170.1) K171.1) K172.1) (Nat.le_of_eq g173.symm))) nin0)).keep K178 nin0)) (((((((((((A168.keep K169 nin0).keep K170 nin0).keep K171 nin0).keep K172 nin0).ext E173).keep K174 (ninS (Nat.ne_of_lt (Nat.lt_of_lt_of_le (Nat.lt_of_lt_of_le (Nat.lt_of_lt_of_le (Nat.lt_of_lt_of_le (Nat.lt_of_lt_of_le (A168).lt K169.1) K170.1) K171.1) K172.1) (Nat.le_of_eq g173.symm))) nin0)).keep K175 (ninS (Nat.ne_of_lt (Nat.lt_of_lt_of_le (Nat.lt_of_lt_of_le (Nat.lt_of_lt_of_le (Nat.lt_of_lt_of_le (Nat.lt_of_lt_of_le (A168).lt K169.1) K170.1) K171.1) K172.1) (Nat.le_of_eq g173.symm))) (ninS (Nat.ne_of_lt (Nat.lt_of_lt_of_le (Nat.lt_of_lt_of_le (Nat.lt_of_lt_of_le (Nat.lt_of_lt_of_le (Nat.lt_of_lt_of_le (Nat.lt_of_lt_of_le (A168).lt K169.1) K170.1) K171.1) K172.1) E173.1) g174)) nin0))).keep K176 (ninS (Nat.ne_of_lt (Nat.lt_of_lt_of_le (Nat.lt_of_lt_of_le (Nat.lt_of_lt_of_le (Nat.lt_of_lt_of_le (Nat.lt_of_lt_of_le (A168).lt K169.1) K170.1) K171.1) K172.1) (Nat.le_of_eq g173.symm))) nin0)).keep K177 (ninS (Nat.ne_of_lt (Nat.lt_of_lt_of_le (Nat.lt_of_lt_of_le (Nat.lt_of_lt_of_le (Nat.lt_of_lt_of_le (Nat.lt_of_lt_of_le (A168).lt K169.1) K170.1) K171.1) K172.1) (Nat.le_of_eq g173.symm))) nin0)).keep K178 nin0)) ((((((((((A169.keep K170 nin0).keep K171 nin0).keep K172 nin0).ext E173).keep K174 (ninS (Nat.ne_of_lt (Nat.lt_of_lt_of_le (Nat.lt_of_lt_of_le (Nat.lt_of_lt_of_le (Nat.lt_of_lt_of_le (A169).lt K170.1) K171.1) K172.1) (Nat.le_of_eq g173.symm))) nin0)).keep K175 (ninS (Nat.ne_of_lt (Nat.lt_of_lt_of_le (Nat.lt_of_lt_of_le (Nat.lt_of_lt_of_le (Nat.lt_of_lt_of_le (A169).lt K170.1) K171.1) K172.1) (Nat.le_of_eq g173.symm))) (ninS (Nat.ne_of_lt (Nat.lt_of_lt_of_le (Nat.lt_of_lt_of_le (Nat.lt_of_lt_of_le (Nat.lt_of_lt_of_le (Nat.lt_of_lt_of_le (A169).lt K170.1) K171.1) K172.1) E173.1) g174)) nin0))).keep K176 (ninS (Nat.ne_of_lt (Nat.lt_of_lt_of_le (Nat.lt_of_lt_of_le (Nat.lt_of_lt_of_le (Nat.lt_of_lt_of_le (A169).lt K170.1) K171.1) K172.1) (Nat.le_of_eq g173.symm))) nin0)).keep K177 (ninS (Nat.ne_of_lt (Nat.lt_of_lt_of_le (Nat.lt_of_lt_of_le (Nat.lt_of_lt_of_le (Nat.lt_of_lt_of_le (A169).lt K170.1) K171.1) K172.1) (Nat.le_of_eq g173.symm))) nin0)).keep K178 nin0)) (by decide) rfl rfl rfl) hown (hw _ (List.mem_of_getElem? (i := 37) rfl)) (hw _ (List.mem_of_getElem? (i := 38) rfl)) (hw _ (List.mem_of_getElem? (i := 2) rfl)) (hw _ (List.mem_of_getElem? (i := 39) rfl)) (by decide) (W := 1) (by decide) (by decide) (by rw [hml]; rfl) (argsL := [(.ref b167), (.ref b168), (.ref b169), (.int (p1 &&& (3 : Int32))), (.int (1 : Int32))]) (rest := [(.int (own_up (own_up (own_up (0 : Int32) y1_167) y1_168) y1_169))]) rfl (lenOf own_pd9 rfl) rfl (Nat.le_of_eq rfl) (hb hby at_197) e179 (by decide) (by decide) ?_
        intro v180 T180 L180 X180 hQ180
        obtain ⟨hv180, N180q, e180⟩ := hQ180
        subst hv180
        have N180 := Fr.app N179 N180q
        show own_Go p.tables e below (T180.setTop (mkF m 200 #[.val (.int p1), .val (.int p2), .val (.int p3), .val (.int p4), .val (.int p5), .val (.int p6), .val (.int (p1 &&& (3 : Int32))), .val (.ref b167), .val (.ref b168), .val (.ref b169), .val (.ref b170), .val (.ref b171), .val (.ref b172), .val (.int (p2 &&& (7 : Int32))), .val (.int (((p2 &&& (7 : Int32)) + (1 : Int32)) + (((p2.toUInt32 >>> ((3 : Int32) &&& 31).toUInt32).toInt32) &&& (7 : Int32)))), .val (.int (((((p2 &&& (7 : Int32)) + (1 : Int32)) + (((p2.toUInt32 >>> ((3 : Int32) &&& 31).toUInt32).toInt32) &&& (7 : Int32))) + (1 : Int32)) + (((p2.toUInt32 >>> ((6 : Int32) &&& 31).toUInt32).toInt32) &&& (7 : Int32)))), .val (.ref b173), .val (.ref b178)] [(.int (own_ex (p1 &&& (3 : Int32)) y1_167 y1_168 y1_169)), (.int (own_up (own_up (own_up (0 : Int32) y1_167) y1_168) y1_169))])) _
        refine own_icmpNo X180 hx hby at_200 (pc' := 203) rfl (teq (own_fin3 hc100 hc117 hc134)).2 ?_
        refine own_aload X180 hx hby at_203 (pc' := 205) rfl rfl rfl ?_
        refine own_iconst X180 hx hby at_205 (pc' := 206) rfl (z := (2 : Int32)) (by decide) ?_
        refine own_iaload X180 hx hby at_206 (pc' := 207) rfl hZ e180 (A178) (by decide) (v := (.int (own_up (own_up (own_up (0 : Int32) y2_167) y2_168) y2_169))) rfl ?_
        refine own_aload X180 hx hby at_207 (pc' := 209) rfl rfl rfl ?_
        refine own_aload X180 hx hby at_209 (pc' := 211) rfl rfl rfl ?_
        refine own_aload X180 hx hby at_211 (pc' := 213) rfl rfl rfl ?_
        refine own_iload X180 hx hby at_213 (pc' := 215) rfl rfl ?_
        refine own_iconst X180 hx hby at_215 (pc' := 216) rfl (z := (2 : Int32)) (by decide) ?_
        refine own_callS X180 hx hZ (rm_ex l Z a0 hw [] b167 b168 b169 (p1 &&& (3 : Int32)) (2 : Int32) y2_167 y2_168 y2_169 [(.int y0_167), (.int y1_167), (.int y2_167), (.int y3_167), (.int y4_167), (.int y5_167)] [(.int y0_168), (.int y1_168), (.int y2_168), (.int y3_168), (.int y4_168), (.int y5_168)] [(.int y0_169), (.int y1_169), (.int y2_169), (.int y3_169), (.int y4_169), (.int y5_169)] T178.heap n0 ((((((((((((A167.keep K168 nin0).keep K169 nin0).keep K170 nin0).keep K171 nin0).keep K172 nin0).ext E173).keep K174 (ninS (Nat.ne_of_lt (Nat.lt_of_lt_of_le (Nat.lt_of_lt_of_le (Nat.lt_of_lt_of_le (Nat.lt_of_lt_of_le (Nat.lt_of_lt_of_le (Nat.lt_of_lt_of_le (A167).lt K168.1) K169.1) K170.1) K171.1) K172.1) (Nat.le_of_eq g173.symm))) nin0)).keep K175 (ninS (Nat.ne_of_lt (Nat.lt_of_lt_of_le (Nat.lt_of_lt_of_le (Nat.lt_of_lt_of_le (Nat.lt_of_lt_of_le (Nat.lt_of_lt_of_le (Nat.lt_of_lt_of_le (A167).lt K168.1) K169.1) K170.1) K171.1) K172.1) (Nat.le_of_eq g173.symm))) (ninS (Nat.ne_of_lt (Nat.lt_of_lt_of_le (Nat.lt_of_lt_of_le (Nat.lt_of_lt_of_le (Nat.lt_of_lt_of_le (Nat.lt_of_lt_of_le (Nat.lt_of_lt_of_le (Nat.lt_of_lt_of_le (A167).lt K168.1) K169.1) K170.1) K171.1) K172.1) E173.1) g174)) nin0))).keep K176 (ninS (Nat.ne_of_lt (Nat.lt_of_lt_of_le (Nat.lt_of_lt_of_le (Nat.lt_of_lt_of_le (Nat.lt_of_lt_of_le (Nat.lt_of_lt_of_le (Nat.lt_of_lt_of_le (A167).lt K168.1) K169.1) K170.1) K171.1) K172.1) (Nat.le_of_eq g173.symm))) nin0)).keep K177 (ninS (Nat.ne_of_lt (Nat.lt_of_lt_of_le (Nat.lt_of_lt_of_le (Nat.lt_of_lt_of_le (Nat.lt_of_lt_of_le (Nat.lt_of_lt_of_le (Nat.lt_of_lt_of_le (A167).lt K168.1) K169.1) K170.1) K171.1) K172.1) (Nat.le_of_eq g173.symm))) nin0)).keep K178 nin0)) (((((((((((A168.keep K169 nin0).keep K170 nin0).keep K171 nin0).keep K172 nin0).ext E173).keep K174 (ninS (Nat.ne_of_lt (Nat.lt_of_lt_of_le (Nat.lt_of_lt_of_le (Nat.lt_of_lt_of_le (Nat.lt_of_lt_of_le (Nat.lt_of_lt_of_le (A168).lt K169.1) K170.1) K171.1) K172.1) (Nat.le_of_eq g173.symm))) nin0)).keep K175 (ninS (Nat.ne_of_lt (Nat.lt_of_lt_of_le (Nat.lt_of_lt_of_le (Nat.lt_of_lt_of_le (Nat.lt_of_lt_of_le (Nat.lt_of_lt_of_le (A168).lt K169.1) K170.1) K171.1) K172.1) (Nat.le_of_eq g173.symm))) (ninS (Nat.ne_of_lt (Nat.lt_of_lt_of_le (Nat.lt_of_lt_of_le (Nat.lt_of_lt_of_le (Nat.lt_of_lt_of_le (Nat.lt_of_lt_of_le (Nat.lt_of_lt_of_le (A168).lt K169.1) K170.1) K171.1) K172.1) E173.1) g174)) nin0))).keep K176 (ninS (Nat.ne_of_lt (Nat.lt_of_lt_of_le (Nat.lt_of_lt_of_le (Nat.lt_of_lt_of_le (Nat.lt_of_lt_of_le (Nat.lt_of_lt_of_le (A168).lt K169.1) K170.1) K171.1) K172.1) (Nat.le_of_eq g173.symm))) nin0)).keep K177 (ninS (Nat.ne_of_lt (Nat.lt_of_lt_of_le (Nat.lt_of_lt_of_le (Nat.lt_of_lt_of_le (Nat.lt_of_lt_of_le (Nat.lt_of_lt_of_le (A168).lt K169.1) K170.1) K171.1) K172.1) (Nat.le_of_eq g173.symm))) nin0)).keep K178 nin0)) ((((((((((A169.keep K170 nin0).keep K171 nin0).keep K172 nin0).ext E173).keep K174 (ninS (Nat.ne_of_lt (Nat.lt_of_lt_of_le (Nat.lt_of_lt_of_le (Nat.lt_of_lt_of_le (Nat.lt_of_lt_of_le (A169).lt K170.1) K171.1) K172.1) (Nat.le_of_eq g173.symm))) nin0)).keep K175 (ninS (Nat.ne_of_lt (Nat.lt_of_lt_of_le (Nat.lt_of_lt_of_le (Nat.lt_of_lt_of_le (Nat.lt_of_lt_of_le (A169).lt K170.1) K171.1) K172.1) (Nat.le_of_eq g173.symm))) (ninS (Nat.ne_of_lt (Nat.lt_of_lt_of_le (Nat.lt_of_lt_of_le (Nat.lt_of_lt_of_le (Nat.lt_of_lt_of_le (Nat.lt_of_lt_of_le (A169).lt K170.1) K171.1) K172.1) E173.1) g174)) nin0))).keep K176 (ninS (Nat.ne_of_lt (Nat.lt_of_lt_of_le (Nat.lt_of_lt_of_le (Nat.lt_of_lt_of_le (Nat.lt_of_lt_of_le (A169).lt K170.1) K171.1) K172.1) (Nat.le_of_eq g173.symm))) nin0)).keep K177 (ninS (Nat.ne_of_lt (Nat.lt_of_lt_of_le (Nat.lt_of_lt_of_le (Nat.lt_of_lt_of_le (Nat.lt_of_lt_of_le (A169).lt K170.1) K171.1) K172.1) (Nat.le_of_eq g173.symm))) nin0)).keep K178 nin0)) (by decide) rfl rfl rfl) hown (hw _ (List.mem_of_getElem? (i := 37) rfl)) (hw _ (List.mem_of_getElem? (i := 38) rfl)) (hw _ (List.mem_of_getElem? (i := 2) rfl)) (hw _ (List.mem_of_getElem? (i := 39) rfl)) (by decide) (W := 1) (by decide) (by decide) (by rw [hml]; rfl) (argsL := [(.ref b167), (.ref b168), (.ref b169), (.int (p1 &&& (3 : Int32))), (.int (2 : Int32))]) (rest := [(.int (own_up (own_up (own_up (0 : Int32) y2_167) y2_168) y2_169))]) rfl (lenOf own_pd9 rfl) rfl (Nat.le_of_eq rfl) (hb hby at_216) e180 (by decide) (by decide) ?_
        intro v181 T181 L181 X181 hQ181
        obtain ⟨hv181, N181q, e181⟩ := hQ181
        subst hv181
        have N181 := Fr.app N180 N181q
        show own_Go p.tables e below (T181.setTop (mkF m 219 #[.val (.int p1), .val (.int p2), .val (.int p3), .val (.int p4), .val (.int p5), .val (.int p6), .val (.int (p1 &&& (3 : Int32))), .val (.ref b167), .val (.ref b168), .val (.ref b169), .val (.ref b170), .val (.ref b171), .val (.ref b172), .val (.int (p2 &&& (7 : Int32))), .val (.int (((p2 &&& (7 : Int32)) + (1 : Int32)) + (((p2.toUInt32 >>> ((3 : Int32) &&& 31).toUInt32).toInt32) &&& (7 : Int32)))), .val (.int (((((p2 &&& (7 : Int32)) + (1 : Int32)) + (((p2.toUInt32 >>> ((3 : Int32) &&& 31).toUInt32).toInt32) &&& (7 : Int32))) + (1 : Int32)) + (((p2.toUInt32 >>> ((6 : Int32) &&& 31).toUInt32).toInt32) &&& (7 : Int32)))), .val (.ref b173), .val (.ref b178)] [(.int (own_ex (p1 &&& (3 : Int32)) y2_167 y2_168 y2_169)), (.int (own_up (own_up (own_up (0 : Int32) y2_167) y2_168) y2_169))])) _
        refine own_icmpNo X181 hx hby at_219 (pc' := 222) rfl (teq (own_fin3 hc100 hc117 hc134)).2 ?_
        refine own_aload X181 hx hby at_222 (pc' := 224) rfl rfl rfl ?_
        refine own_iconst X181 hx hby at_224 (pc' := 225) rfl (z := (3 : Int32)) (by decide) ?_
        refine own_iaload X181 hx hby at_225 (pc' := 226) rfl hZ e181 (A178) (by decide) (v := (.int (own_up (own_up (own_up (0 : Int32) y3_167) y3_168) y3_169))) rfl ?_
        refine own_aload X181 hx hby at_226 (pc' := 228) rfl rfl rfl ?_
        refine own_aload X181 hx hby at_228 (pc' := 230) rfl rfl rfl ?_
        refine own_aload X181 hx hby at_230 (pc' := 232) rfl rfl rfl ?_
        refine own_iload X181 hx hby at_232 (pc' := 234) rfl rfl ?_
        refine own_iconst X181 hx hby at_234 (pc' := 235) rfl (z := (3 : Int32)) (by decide) ?_
        refine own_callS X181 hx hZ (rm_ex l Z a0 hw [] b167 b168 b169 (p1 &&& (3 : Int32)) (3 : Int32) y3_167 y3_168 y3_169 [(.int y0_167), (.int y1_167), (.int y2_167), (.int y3_167), (.int y4_167), (.int y5_167)] [(.int y0_168), (.int y1_168), (.int y2_168), (.int y3_168), (.int y4_168), (.int y5_168)] [(.int y0_169), (.int y1_169), (.int y2_169), (.int y3_169), (.int y4_169), (.int y5_169)] T178.heap n0 ((((((((((((A167.keep K168 nin0).keep K169 nin0).keep K170 nin0).keep K171 nin0).keep K172 nin0).ext E173).keep K174 (ninS (Nat.ne_of_lt (Nat.lt_of_lt_of_le (Nat.lt_of_lt_of_le (Nat.lt_of_lt_of_le (Nat.lt_of_lt_of_le (Nat.lt_of_lt_of_le (Nat.lt_of_lt_of_le (A167).lt K168.1) K169.1) K170.1) K171.1) K172.1) (Nat.le_of_eq g173.symm))) nin0)).keep K175 (ninS (Nat.ne_of_lt (Nat.lt_of_lt_of_le (Nat.lt_of_lt_of_le (Nat.lt_of_lt_of_le (Nat.lt_of_lt_of_le (Nat.lt_of_lt_of_le (Nat.lt_of_lt_of_le (A167).lt K168.1) K169.1) K170.1) K171.1) K172.1) (Nat.le_of_eq g173.symm))) (ninS (Nat.ne_of_lt (Nat.lt_of_lt_of_le (Nat.lt_of_lt_of_le (Nat.lt_of_lt_of_le (Nat.lt_of_lt_of_le (Nat.lt_of_lt_of_le (Nat.lt_of_lt_of_le (Nat.lt_of_lt_of_le (A167).lt K168.1) K169.1) K170.1) K171.1) K172.1) E173.1) g174)) nin0))).keep K176 (ninS (Nat.ne_of_lt (Nat.lt_of_lt_of_le (Nat.lt_of_lt_of_le (Nat.lt_of_lt_of_le (Nat.lt_of_lt_of_le (Nat.lt_of_lt_of_le (Nat.lt_of_lt_of_le (A167).lt K168.1) K169.1) K170.1) K171.1) K172.1) (Nat.le_of_eq g173.symm))) nin0)).keep K177 (ninS (Nat.ne_of_lt (Nat.lt_of_lt_of_le (Nat.lt_of_lt_of_le (Nat.lt_of_lt_of_le (Nat.lt_of_lt_of_le (Nat.lt_of_lt_of_le (Nat.lt_of_lt_of_le (A167).lt K168.1) K169.1) K170.1) K171.1) K172.1) (Nat.le_of_eq g173.symm))) nin0)).keep K178 nin0)) (((((((((((A168.keep K169 nin0).keep K170 nin0).keep K171 nin0).keep K172 nin0).ext E173).keep K174 (ninS (Nat.ne_of_lt (Nat.lt_of_lt_of_le (Nat.lt_of_lt_of_le (Nat.lt_of_lt_of_le (Nat.lt_of_lt_of_le (Nat.lt_of_lt_of_le (A168).lt K169.1) K170.1) K171.1) K172.1) (Nat.le_of_eq g173.symm))) nin0)).keep K175 (ninS (Nat.ne_of_lt (Nat.lt_of_lt_of_le (Nat.lt_of_lt_of_le (Nat.lt_of_lt_of_le (Nat.lt_of_lt_of_le (Nat.lt_of_lt_of_le (A168).lt K169.1) K170.1) K171.1) K172.1) (Nat.le_of_eq g173.symm))) (ninS (Nat.ne_of_lt (Nat.lt_of_lt_of_le (Nat.lt_of_lt_of_le (Nat.lt_of_lt_of_le (Nat.lt_of_lt_of_le (Nat.lt_of_lt_of_le (Nat.lt_of_lt_of_le (A168).lt K169.1) K170.1) K171.1) K172.1) E173.1) g174)) nin0))).keep K176 (ninS (Nat.ne_of_lt (Nat.lt_of_lt_of_le (Nat.lt_of_lt_of_le (Nat.lt_of_lt_of_le (Nat.lt_of_lt_of_le (Nat.lt_of_lt_of_le (A168).lt K169.1) K170.1) K171.1) K172.1) (Nat.le_of_eq g173.symm))) nin0)).keep K177 (ninS (Nat.ne_of_lt (Nat.lt_of_lt_of_le (Nat.lt_of_lt_of_le (Nat.lt_of_lt_of_le (Nat.lt_of_lt_of_le (Nat.lt_of_lt_of_le (A168).lt K169.1) K170.1) K171.1) K172.1) (Nat.le_of_eq g173.symm))) nin0)).keep K178 nin0)) ((((((((((A169.keep K170 nin0).keep K171 nin0).keep K172 nin0).ext E173).keep K174 (ninS (Nat.ne_of_lt (Nat.lt_of_lt_of_le (Nat.lt_of_lt_of_le (Nat.lt_of_lt_of_le (Nat.lt_of_lt_of_le (A169).lt K170.1) K171.1) K172.1) (Nat.le_of_eq g173.symm))) nin0)).keep K175 (ninS (Nat.ne_of_lt (Nat.lt_of_lt_of_le (Nat.lt_of_lt_of_le (Nat.lt_of_lt_of_le (Nat.lt_of_lt_of_le (A169).lt K170.1) K171.1) K172.1) (Nat.le_of_eq g173.symm))) (ninS (Nat.ne_of_lt (Nat.lt_of_lt_of_le (Nat.lt_of_lt_of_le (Nat.lt_of_lt_of_le (Nat.lt_of_lt_of_le (Nat.lt_of_lt_of_le (A169).lt K170.1) K171.1) K172.1) E173.1) g174)) nin0))).keep K176 (ninS (Nat.ne_of_lt (Nat.lt_of_lt_of_le (Nat.lt_of_lt_of_le (Nat.lt_of_lt_of_le (Nat.lt_of_lt_of_le (A169).lt K170.1) K171.1) K172.1) (Nat.le_of_eq g173.symm))) nin0)).keep K177 (ninS (Nat.ne_of_lt (Nat.lt_of_lt_of_le (Nat.lt_of_lt_of_le (Nat.lt_of_lt_of_le (Nat.lt_of_lt_of_le (A169).lt K170.1) K171.1) K172.1) (Nat.le_of_eq g173.symm))) nin0)).keep K178 nin0)) (by decide) rfl rfl rfl) hown (hw _ (List.mem_of_getElem? (i := 37) rfl)) (hw _ (List.mem_of_getElem? (i := 38) rfl)) (hw _ (List.mem_of_getElem? (i := 2) rfl)) (hw _ (List.mem_of_getElem? (i := 39) rfl)) (by decide) (W := 1) (by decide) (by decide) (by rw [hml]; rfl) (argsL := [(.ref b167), (.ref b168), (.ref b169), (.int (p1 &&& (3 : Int32))), (.int (3 : Int32))]) (rest := [(.int (own_up (own_up (own_up (0 : Int32) y3_167) y3_168) y3_169))]) rfl (lenOf own_pd9 rfl) rfl (Nat.le_of_eq rfl) (hb hby at_235) e181 (by decide) (by decide) ?_
        intro v182 T182 L182 X182 hQ182
        obtain ⟨hv182, N182q, e182⟩ := hQ182
        subst hv182
        have N182 := Fr.app N181 N182q
        show own_Go p.tables e below (T182.setTop (mkF m 238 #[.val (.int p1), .val (.int p2), .val (.int p3), .val (.int p4), .val (.int p5), .val (.int p6), .val (.int (p1 &&& (3 : Int32))), .val (.ref b167), .val (.ref b168), .val (.ref b169), .val (.ref b170), .val (.ref b171), .val (.ref b172), .val (.int (p2 &&& (7 : Int32))), .val (.int (((p2 &&& (7 : Int32)) + (1 : Int32)) + (((p2.toUInt32 >>> ((3 : Int32) &&& 31).toUInt32).toInt32) &&& (7 : Int32)))), .val (.int (((((p2 &&& (7 : Int32)) + (1 : Int32)) + (((p2.toUInt32 >>> ((3 : Int32) &&& 31).toUInt32).toInt32) &&& (7 : Int32))) + (1 : Int32)) + (((p2.toUInt32 >>> ((6 : Int32) &&& 31).toUInt32).toInt32) &&& (7 : Int32)))), .val (.ref b173), .val (.ref b178)] [(.int (own_ex (p1 &&& (3 : Int32)) y3_167 y3_168 y3_169)), (.int (own_up (own_up (own_up (0 : Int32) y3_167) y3_168) y3_169))])) _
        refine own_icmpNo X182 hx hby at_238 (pc' := 241) rfl (teq (own_fin3 hc100 hc117 hc134)).2 ?_
        refine own_aload X182 hx hby at_241 (pc' := 243) rfl rfl rfl ?_
        refine own_iconst X182 hx hby at_243 (pc' := 244) rfl (z := (4 : Int32)) (by decide) ?_
        refine own_iaload X182 hx hby at_244 (pc' := 245) rfl hZ e182 (A178) (by decide) (v := (.int (own_up (own_up (own_up (0 : Int32) y4_167) y4_168) y4_169))) rfl ?_
        refine own_aload X182 hx hby at_245 (pc' := 247) rfl rfl rfl ?_
        refine own_aload X182 hx hby at_247 (pc' := 249) rfl rfl rfl ?_
        refine own_aload X182 hx hby at_249 (pc' := 251) rfl rfl rfl ?_
        refine own_iload X182 hx hby at_251 (pc' := 253) rfl rfl ?_
        refine own_iconst X182 hx hby at_253 (pc' := 254) rfl (z := (4 : Int32)) (by decide) ?_
        refine own_callS X182 hx hZ (rm_ex l Z a0 hw [] b167 b168 b169 (p1 &&& (3 : Int32)) (4 : Int32) y4_167 y4_168 y4_169 [(.int y0_167), (.int y1_167), (.int y2_167), (.int y3_167), (.int y4_167), (.int y5_167)] [(.int y0_168), (.int y1_168), (.int y2_168), (.int y3_168), (.int y4_168), (.int y5_168)] [(.int y0_169), (.int y1_169), (.int y2_169), (.int y3_169), (.int y4_169), (.int y5_169)] T178.heap n0 ((((((((((((A167.keep K168 nin0).keep K169 nin0).keep K170 nin0).keep K171 nin0).keep K172 nin0).ext E173).keep K174 (ninS (Nat.ne_of_lt (Nat.lt_of_lt_of_le (Nat.lt_of_lt_of_le (Nat.lt_of_lt_of_le (Nat.lt_of_lt_of_le (Nat.lt_of_lt_of_le (Nat.lt_of_lt_of_le (A167).lt K168.1) K169.1) K170.1) K171.1) K172.1) (Nat.le_of_eq g173.symm))) nin0)).keep K175 (ninS (Nat.ne_of_lt (Nat.lt_of_lt_of_le (Nat.lt_of_lt_of_le (Nat.lt_of_lt_of_le (Nat.lt_of_lt_of_le (Nat.lt_of_lt_of_le (Nat.lt_of_lt_of_le (A167).lt K168.1) K169.1) K170.1) K171.1) K172.1) (Nat.le_of_eq g173.symm))) (ninS (Nat.ne_of_lt (Nat.lt_of_lt_of_le (Nat.lt_of_lt_of_le (Nat.lt_of_lt_of_le (Nat.lt_of_lt_of_le (Nat.lt_of_lt_of_le (Nat.lt_of_lt_of_le (Nat.lt_of_lt_of_le (A167).lt K168.1) K169.1) K170.1) K171.1) K172.1) E173.1) g174)) nin0))).keep K176 (ninS (Nat.ne_of_lt (Nat.lt_of_lt_of_le (Nat.lt_of_lt_of_le (Nat.lt_of_lt_of_le (Nat.lt_of_lt_of_le (Nat.lt_of_lt_of_le (Nat.lt_of_lt_of_le (A167).lt K168.1) K169.1) K170.1) K171.1) K172.1) (Nat.le_of_eq g173.symm))) nin0)).keep K177 (ninS (Nat.ne_of_lt (Nat.lt_of_lt_of_le (Nat.lt_of_lt_of_le (Nat.lt_of_lt_of_le (Nat.lt_of_lt_of_le (Nat.lt_of_lt_of_le (Nat.lt_of_lt_of_le (A167).lt K168.1) K169.1) K170.1) K171.1) K172.1) (Nat.le_of_eq g173.symm))) nin0)).keep K178 nin0)) (((((((((((A168.keep K169 nin0).keep K170 nin0).keep K171 nin0).keep K172 nin0).ext E173).keep K174 (ninS (Nat.ne_of_lt (Nat.lt_of_lt_of_le (Nat.lt_of_lt_of_le (Nat.lt_of_lt_of_le (Nat.lt_of_lt_of_le (Nat.lt_of_lt_of_le (A168).lt K169.1) K170.1) K171.1) K172.1) (Nat.le_of_eq g173.symm))) nin0)).keep K175 (ninS (Nat.ne_of_lt (Nat.lt_of_lt_of_le (Nat.lt_of_lt_of_le (Nat.lt_of_lt_of_le (Nat.lt_of_lt_of_le (Nat.lt_of_lt_of_le (A168).lt K169.1) K170.1) K171.1) K172.1) (Nat.le_of_eq g173.symm))) (ninS (Nat.ne_of_lt (Nat.lt_of_lt_of_le (Nat.lt_of_lt_of_le (Nat.lt_of_lt_of_le (Nat.lt_of_lt_of_le (Nat.lt_of_lt_of_le (Nat.lt_of_lt_of_le (A168).lt K169.1) K170.1) K171.1) K172.1) E173.1) g174)) nin0))).keep K176 (ninS (Nat.ne_of_lt (Nat.lt_of_lt_of_le (Nat.lt_of_lt_of_le (Nat.lt_of_lt_of_le (Nat.lt_of_lt_of_le (Nat.lt_of_lt_of_le (A168).lt K169.1) K170.1) K171.1) K172.1) (Nat.le_of_eq g173.symm))) nin0)).keep K177 (ninS (Nat.ne_of_lt (Nat.lt_of_lt_of_le (Nat.lt_of_lt_of_le (Nat.lt_of_lt_of_le (Nat.lt_of_lt_of_le (Nat.lt_of_lt_of_le (A168).lt K169.1) K170.1) K171.1) K172.1) (Nat.le_of_eq g173.symm))) nin0)).keep K178 nin0)) ((((((((((A169.keep K170 nin0).keep K171 nin0).keep K172 nin0).ext E173).keep K174 (ninS (Nat.ne_of_lt (Nat.lt_of_lt_of_le (Nat.lt_of_lt_of_le (Nat.lt_of_lt_of_le (Nat.lt_of_lt_of_le (A169).lt K170.1) K171.1) K172.1) (Nat.le_of_eq g173.symm))) nin0)).keep K175 (ninS (Nat.ne_of_lt (Nat.lt_of_lt_of_le (Nat.lt_of_lt_of_le (Nat.lt_of_lt_of_le (Nat.lt_of_lt_of_le (A169).lt K170.1) K171.1) K172.1) (Nat.le_of_eq g173.symm))) (ninS (Nat.ne_of_lt (Nat.lt_of_lt_of_le (Nat.lt_of_lt_of_le (Nat.lt_of_lt_of_le (Nat.lt_of_lt_of_le (Nat.lt_of_lt_of_le (A169).lt K170.1) K171.1) K172.1) E173.1) g174)) nin0))).keep K176 (ninS (Nat.ne_of_lt (Nat.lt_of_lt_of_le (Nat.lt_of_lt_of_le (Nat.lt_of_lt_of_le (Nat.lt_of_lt_of_le (A169).lt K170.1) K171.1) K172.1) (Nat.le_of_eq g173.symm))) nin0)).keep K177 (ninS (Nat.ne_of_lt (Nat.lt_of_lt_of_le (Nat.lt_of_lt_of_le (Nat.lt_of_lt_of_le (Nat.lt_of_lt_of_le (A169).lt K170.1) K171.1) K172.1) (Nat.le_of_eq g173.symm))) nin0)).keep K178 nin0)) (by decide) rfl rfl rfl) hown (hw _ (List.mem_of_getElem? (i := 37) rfl)) (hw _ (List.mem_of_getElem? (i := 38) rfl)) (hw _ (List.mem_of_getElem? (i := 2) rfl)) (hw _ (List.mem_of_getElem? (i := 39) rfl)) (by decide) (W := 1) (by decide) (by decide) (by rw [hml]; rfl) (argsL := [(.ref b167), (.ref b168), (.ref b169), (.int (p1 &&& (3 : Int32))), (.int (4 : Int32))]) (rest := [(.int (own_up (own_up (own_up (0 : Int32) y4_167) y4_168) y4_169))]) rfl (lenOf own_pd9 rfl) rfl (Nat.le_of_eq rfl) (hb hby at_254) e182 (by decide) (by decide) ?_
        intro v183 T183 L183 X183 hQ183
        obtain ⟨hv183, N183q, e183⟩ := hQ183
        subst hv183
        have N183 := Fr.app N182 N183q
        show own_Go p.tables e below (T183.setTop (mkF m 257 #[.val (.int p1), .val (.int p2), .val (.int p3), .val (.int p4), .val (.int p5), .val (.int p6), .val (.int (p1 &&& (3 : Int32))), .val (.ref b167), .val (.ref b168), .val (.ref b169), .val (.ref b170), .val (.ref b171), .val (.ref b172), .val (.int (p2 &&& (7 : Int32))), .val (.int (((p2 &&& (7 : Int32)) + (1 : Int32)) + (((p2.toUInt32 >>> ((3 : Int32) &&& 31).toUInt32).toInt32) &&& (7 : Int32)))), .val (.int (((((p2 &&& (7 : Int32)) + (1 : Int32)) + (((p2.toUInt32 >>> ((3 : Int32) &&& 31).toUInt32).toInt32) &&& (7 : Int32))) + (1 : Int32)) + (((p2.toUInt32 >>> ((6 : Int32) &&& 31).toUInt32).toInt32) &&& (7 : Int32)))), .val (.ref b173), .val (.ref b178)] [(.int (own_ex (p1 &&& (3 : Int32)) y4_167 y4_168 y4_169)), (.int (own_up (own_up (own_up (0 : Int32) y4_167) y4_168) y4_169))])) _
        refine own_icmpNo X183 hx hby at_257 (pc' := 260) rfl (teq (own_fin3 hc100 hc117 hc134)).2 ?_
        refine own_aload X183 hx hby at_260 (pc' := 262) rfl rfl rfl ?_
        refine own_iconst X183 hx hby at_262 (pc' := 263) rfl (z := (5 : Int32)) (by decide) ?_
        refine own_iaload X183 hx hby at_263 (pc' := 264) rfl hZ e183 (A178) (by decide) (v := (.int (own_up (own_up (own_up (0 : Int32) y5_167) y5_168) y5_169))) rfl ?_
        refine own_aload X183 hx hby at_264 (pc' := 266) rfl rfl rfl ?_
        refine own_aload X183 hx hby at_266 (pc' := 268) rfl rfl rfl ?_
        refine own_aload X183 hx hby at_268 (pc' := 270) rfl rfl rfl ?_
        refine own_iload X183 hx hby at_270 (pc' := 272) rfl rfl ?_
        refine own_iconst X183 hx hby at_272 (pc' := 273) rfl (z := (5 : Int32)) (by decide) ?_
        refine own_callS X183 hx hZ (rm_ex l Z a0 hw [] b167 b168 b169 (p1 &&& (3 : Int32)) (5 : Int32) y5_167 y5_168 y5_169 [(.int y0_167), (.int y1_167), (.int y2_167), (.int y3_167), (.int y4_167), (.int y5_167)] [(.int y0_168), (.int y1_168), (.int y2_168), (.int y3_168), (.int y4_168), (.int y5_168)] [(.int y0_169), (.int y1_169), (.int y2_169), (.int y3_169), (.int y4_169), (.int y5_169)] T178.heap n0 ((((((((((((A167.keep K168 nin0).keep K169 nin0).keep K170 nin0).keep K171 nin0).keep K172 nin0).ext E173).keep K174 (ninS (Nat.ne_of_lt (Nat.lt_of_lt_of_le (Nat.lt_of_lt_of_le (Nat.lt_of_lt_of_le (Nat.lt_of_lt_of_le (Nat.lt_of_lt_of_le (Nat.lt_of_lt_of_le (A167).lt K168.1) K169.1) K170.1) K171.1) K172.1) (Nat.le_of_eq g173.symm))) nin0)).keep K175 (ninS (Nat.ne_of_lt (Nat.lt_of_lt_of_le (Nat.lt_of_lt_of_le (Nat.lt_of_lt_of_le (Nat.lt_of_lt_of_le (Nat.lt_of_lt_of_le (Nat.lt_of_lt_of_le (A167).lt K168.1) K169.1) K170.1) K171.1) K172.1) (Nat.le_of_eq g173.symm))) (ninS (Nat.ne_of_lt (Nat.lt_of_lt_of_le (Nat.lt_of_lt_of_le (Nat.lt_of_lt_of_le (Nat.lt_of_lt_of_le (Nat.lt_of_lt_of_le (Nat.lt_of_lt_of_le (Nat.lt_of_lt_of_le (A167).lt K168.1) K169.1) K170.1) K171.1) K172.1) E173.1) g174)) nin0))).keep K176 (ninS (Nat.ne_of_lt (Nat.lt_of_lt_of_le (Nat.lt_of_lt_of_le (Nat.lt_of_lt_of_le (Nat.lt_of_lt_of_le (Nat.lt_of_lt_of_le (Nat.lt_of_lt_of_le (A167).lt K168.1) K169.1) K170.1) K171.1) K172.1) (Nat.le_of_eq g173.symm))) nin0)).keep K177 (ninS (Nat.ne_of_lt (Nat.lt_of_lt_of_le (Nat.lt_of_lt_of_le (Nat.lt_of_lt_of_le (Nat.lt_of_lt_of_le (Nat.lt_of_lt_of_le (Nat.lt_of_lt_of_le (A167).lt K168.1) K169.1) K170.1) K171.1) K172.1) (Nat.le_of_eq g173.symm))) nin0)).keep K178 nin0)) (((((((((((A168.keep K169 nin0).keep K170 nin0).keep K171 nin0).keep K172 nin0).ext E173).keep K174 (ninS (Nat.ne_of_lt (Nat.lt_of_lt_of_le (Nat.lt_of_lt_of_le (Nat.lt_of_lt_of_le (Nat.lt_of_lt_of_le (Nat.lt_of_lt_of_le (A168).lt K169.1) K170.1) K171.1) K172.1) (Nat.le_of_eq g173.symm))) nin0)).keep K175 (ninS (Nat.ne_of_lt (Nat.lt_of_lt_of_le (Nat.lt_of_lt_of_le (Nat.lt_of_lt_of_le (Nat.lt_of_lt_of_le (Nat.lt_of_lt_of_le (A168).lt K169.1) K170.1) K171.1) K172.1) (Nat.le_of_eq g173.symm))) (ninS (Nat.ne_of_lt (Nat.lt_of_lt_of_le (Nat.lt_of_lt_of_le (Nat.lt_of_lt_of_le (Nat.lt_of_lt_of_le (Nat.lt_of_lt_of_le (Nat.lt_of_lt_of_le (A168).lt K169.1) K170.1) K171.1) K172.1) E173.1) g174)) nin0))).keep K176 (ninS (Nat.ne_of_lt (Nat.lt_of_lt_of_le (Nat.lt_of_lt_of_le (Nat.lt_of_lt_of_le (Nat.lt_of_lt_of_le (Nat.lt_of_lt_of_le (A168).lt K169.1) K170.1) K171.1) K172.1) (Nat.le_of_eq g173.symm))) nin0)).keep K177 (ninS (Nat.ne_of_lt (Nat.lt_of_lt_of_le (Nat.lt_of_lt_of_le (Nat.lt_of_lt_of_le (Nat.lt_of_lt_of_le (Nat.lt_of_lt_of_le (A168).lt K169.1) K170.1) K171.1) K172.1) (Nat.le_of_eq g173.symm))) nin0)).keep K178 nin0)) ((((((((((A169.keep K170 nin0).keep K171 nin0).keep K172 nin0).ext E173).keep K174 (ninS (Nat.ne_of_lt (Nat.lt_of_lt_of_le (Nat.lt_of_lt_of_le (Nat.lt_of_lt_of_le (Nat.lt_of_lt_of_le (A169).lt K170.1) K171.1) K172.1) (Nat.le_of_eq g173.symm))) nin0)).keep K175 (ninS (Nat.ne_of_lt (Nat.lt_of_lt_of_le (Nat.lt_of_lt_of_le (Nat.lt_of_lt_of_le (Nat.lt_of_lt_of_le (A169).lt K170.1) K171.1) K172.1) (Nat.le_of_eq g173.symm))) (ninS (Nat.ne_of_lt (Nat.lt_of_lt_of_le (Nat.lt_of_lt_of_le (Nat.lt_of_lt_of_le (Nat.lt_of_lt_of_le (Nat.lt_of_lt_of_le (A169).lt K170.1) K171.1) K172.1) E173.1) g174)) nin0))).keep K176 (ninS (Nat.ne_of_lt (Nat.lt_of_lt_of_le (Nat.lt_of_lt_of_le (Nat.lt_of_lt_of_le (Nat.lt_of_lt_of_le (A169).lt K170.1) K171.1) K172.1) (Nat.le_of_eq g173.symm))) nin0)).keep K177 (ninS (Nat.ne_of_lt (Nat.lt_of_lt_of_le (Nat.lt_of_lt_of_le (Nat.lt_of_lt_of_le (Nat.lt_of_lt_of_le (A169).lt K170.1) K171.1) K172.1) (Nat.le_of_eq g173.symm))) nin0)).keep K178 nin0)) (by decide) rfl rfl rfl) hown (hw _ (List.mem_of_getElem? (i := 37) rfl)) (hw _ (List.mem_of_getElem? (i := 38) rfl)) (hw _ (List.mem_of_getElem? (i := 2) rfl)) (hw _ (List.mem_of_getElem? (i := 39) rfl)) (by decide) (W := 1) (by decide) (by decide) (by rw [hml]; rfl) (argsL := [(.ref b167), (.ref b168), (.ref b169), (.int (p1 &&& (3 : Int32))), (.int (5 : Int32))]) (rest := [(.int (own_up (own_up (own_up (0 : Int32) y5_167) y5_168) y5_169))]) rfl (lenOf own_pd9 rfl) rfl (Nat.le_of_eq rfl) (hb hby at_273) e183 (by decide) (by decide) ?_
        intro v184 T184 L184 X184 hQ184
        obtain ⟨hv184, N184q, e184⟩ := hQ184
        subst hv184
        have N184 := Fr.app N183 N184q
        show own_Go p.tables e below (T184.setTop (mkF m 276 #[.val (.int p1), .val (.int p2), .val (.int p3), .val (.int p4), .val (.int p5), .val (.int p6), .val (.int (p1 &&& (3 : Int32))), .val (.ref b167), .val (.ref b168), .val (.ref b169), .val (.ref b170), .val (.ref b171), .val (.ref b172), .val (.int (p2 &&& (7 : Int32))), .val (.int (((p2 &&& (7 : Int32)) + (1 : Int32)) + (((p2.toUInt32 >>> ((3 : Int32) &&& 31).toUInt32).toInt32) &&& (7 : Int32)))), .val (.int (((((p2 &&& (7 : Int32)) + (1 : Int32)) + (((p2.toUInt32 >>> ((3 : Int32) &&& 31).toUInt32).toInt32) &&& (7 : Int32))) + (1 : Int32)) + (((p2.toUInt32 >>> ((6 : Int32) &&& 31).toUInt32).toInt32) &&& (7 : Int32)))), .val (.ref b173), .val (.ref b178)] [(.int (own_ex (p1 &&& (3 : Int32)) y5_167 y5_168 y5_169)), (.int (own_up (own_up (own_up (0 : Int32) y5_167) y5_168) y5_169))])) _
        refine own_icmpNo X184 hx hby at_276 (pc' := 279) rfl (teq (own_fin3 hc100 hc117 hc134)).2 ?_
        refine own_iconst X184 hx hby at_279 (pc' := 280) rfl (z := (1 : Int32)) (by decide) ?_
        refine own_goto X184 hx hby at_280 (pc' := 284) (by decide) ?_
        exact own_retZ (t := .boolean) X184 hx hret (by simp) (hb hby at_284) hlk (by decide) (by decide) ⟨congrArg (fun z => some (Value.int z)) (own_nar1), N184⟩
      · skip
        refine own_icmpYes X176 hx hby at_134 (pc' := 148) (by decide) (flt hc134).2.2.2 ?_
        refine own_aload X176 hx hby at_148 (pc' := 150) rfl rfl rfl ?_
        refine own_callV X176 hx hZ (rm_cs2 l Z a0 hw [] b173 d176 aC vC (p2 &&& (7 : Int32)) y0_167 y1_167 y2_167 y3_167 y4_167 y5_167 m0_170 m1_170 (((p2 &&& (7 : Int32)) + (1 : Int32)) + (((p2.toUInt32 >>> ((3 : Int32) &&& 31).toUInt32).toInt32) &&& (7 : Int32))) y0_168 y1_168 y2_168 y3_168 y4_168 y5_168 m0_171 m1_171 T176.heap n0 (((((((((((O_0.keep K167 all0).keep K168 all0).keep K169 all0).keep K170 all0).keep K171 all0).keep K172 all0).ext E173).keep K174 (allS l173 all0)).keep K175 (allS l173 (allS l174 all0))).keep K176 (allS l173 all0))) S_S S_C A_C hC (E176) (F176) (G176) (A176)) hown (hw _ (List.mem_of_getElem? (i := 30) rfl)) (hw _ (List.mem_of_getElem? (i := 31) rfl)) (hw _ (List.mem_of_getElem? (i := 33) rfl)) (hw _ (List.mem_of_getElem? (i := 32) rfl)) (hw _ (List.mem_of_getElem? (i := 34) rfl)) (hw _ (List.mem_of_getElem? (i := 14) rfl)) (by decide) E176 (W := 0) (by decide) (by decide) (by rw [hml]; rfl) (argsL := []) (rest := []) rfl (lenOf own_pd8 rfl) rfl (Nat.le_of_eq rfl) (hb hby at_150) rfl (by decide) (by decide) ?_
        intro v185 T185 L185 X185 hQ185
        obtain ⟨b185, hv185, N185q, K185, g185, A185⟩ := hQ185
        subst hv185
        have N185 := Fr.app N176 N185q
        show own_Go p.tables e below (T185.setTop (mkF m 153 #[.val (.int p1), .val (.int p2), .val (.int p3), .val (.int p4), .val (.int p5), .val (.int p6), .val (.int (p1 &&& (3 : Int32))), .val (.ref b167), .val (.ref b168), .val (.ref b169), .val (.ref b170), .val (.ref b171), .val (.ref b172), .val (.int (p2 &&& (7 : Int32))), .val (.int (((p2 &&& (7 : Int32)) + (1 : Int32)) + (((p2.toUInt32 >>> ((3 : Int32) &&& 31).toUInt32).toInt32) &&& (7 : Int32)))), .val (.int (((((p2 &&& (7 : Int32)) + (1 : Int32)) + (((p2.toUInt32 >>> ((3 : Int32) &&& 31).toUInt32).toInt32) &&& (7 : Int32))) + (1 : Int32)) + (((p2.toUInt32 >>> ((6 : Int32) &&& 31).toUInt32).toInt32) &&& (7 : Int32)))), .val (.ref b173), .unset] [(.ref b185)])) _
        refine own_astore X185 hx hby at_153 (pc' := 155) rfl rfl (Ls' := #[.val (.int p1), .val (.int p2), .val (.int p3), .val (.int p4), .val (.int p5), .val (.int p6), .val (.int (p1 &&& (3 : Int32))), .val (.ref b167), .val (.ref b168), .val (.ref b169), .val (.ref b170), .val (.ref b171), .val (.ref b172), .val (.int (p2 &&& (7 : Int32))), .val (.int (((p2 &&& (7 : Int32)) + (1 : Int32)) + (((p2.toUInt32 >>> ((3 : Int32) &&& 31).toUInt32).toInt32) &&& (7 : Int32)))), .val (.int (((((p2 &&& (7 : Int32)) + (1 : Int32)) + (((p2.toUInt32 >>> ((3 : Int32) &&& 31).toUInt32).toInt32) &&& (7 : Int32))) + (1 : Int32)) + (((p2.toUInt32 >>> ((6 : Int32) &&& 31).toUInt32).toInt32) &&& (7 : Int32)))), .val (.ref b173), .val (.ref b185)]) rfl ?_
        refine own_aload X185 hx hby at_155 (pc' := 157) rfl rfl rfl ?_
        refine own_len X185 hx hby at_157 (pc' := 158) rfl hZ rfl (A185) (n := (6 : Int32)) (by rfl) ?_
        refine own_bipush X185 hx hby at_158 (pc' := 160) rfl (z := (6 : Int32)) (by decide) ?_
        refine own_icmpYes X185 hx hby at_160 (pc' := 165) (by decide) (by decide) ?_
        refine own_aload X185 hx hby at_165 (pc' := 167) rfl rfl rfl ?_
        refine own_iconst X185 hx hby at_167 (pc' := 168) rfl (z := (0 : Int32)) (by decide) ?_
        refine own_iaload X185 hx hby at_168 (pc' := 169) rfl hZ rfl (A185) (by decide) (v := (.int (own_up (own_up (0 : Int32) y0_167) y0_168))) rfl ?_
        refine own_aload X185 hx hby at_169 (pc' := 171) rfl rfl rfl ?_
        refine own_aload X185 hx hby at_171 (pc' := 173) rfl rfl rfl ?_
        refine own_aload X185 hx hby at_173 (pc' := 175) rfl rfl rfl ?_
        refine own_iload X185 hx hby at_175 (pc' := 177) rfl rfl ?_
        refine own_iconst X185 hx hby at_177 (pc' := 178) rfl (z := (0 : Int32)) (by decide) ?_
        refine own_callS X185 hx hZ (rm_ex l Z a0 hw [] b167 b168 b169 (p1 &&& (3 : Int32)) (0 : Int32) y0_167 y0_168 y0_169 [(.int y0_167), (.int y1_167), (.int y2_167), (.int y3_167), (.int y4_167), (.int y5_167)] [(.int y0_168), (.int y1_168), (.int y2_168), (.int y3_168), (.int y4_168), (.int y5_168)] [(.int y0_169), (.int y1_169), (.int y2_169), (.int y3_169), (.int y4_169), (.int y5_169)] T185.heap n0 (((((((((((A167.keep K168 nin0).keep K169 nin0).keep K170 nin0).keep K171 nin0).keep K172 nin0).ext E173).keep K174 (ninS (Nat.ne_of_lt (Nat.lt_of_lt_of_le (Nat.lt_of_lt_of_le (Nat.lt_of_lt_of_le (Nat.lt_of_lt_of_le (Nat.lt_of_lt_of_le (Nat.lt_of_lt_of_le (A167).lt K168.1) K169.1) K170.1) K171.1) K172.1) (Nat.le_of_eq g173.symm))) nin0)).keep K175 (ninS (Nat.ne_of_lt (Nat.lt_of_lt_of_le (Nat.lt_of_lt_of_le (Nat.lt_of_lt_of_le (Nat.lt_of_lt_of_le (Nat.lt_of_lt_of_le (Nat.lt_of_lt_of_le (A167).lt K168.1) K169.1) K170.1) K171.1) K172.1) (Nat.le_of_eq g173.symm))) (ninS (Nat.ne_of_lt (Nat.lt_of_lt_of_le (Nat.lt_of_lt_of_le (Nat.lt_of_lt_of_le (Nat.lt_of_lt_of_le (Nat.lt_of_lt_of_le (Nat.lt_of_lt_of_le (Nat.lt_of_lt_of_le (A167).lt K168.1) K169.1) K170.1) K171.1) K172.1) E173.1) g174)) nin0))).keep K176 (ninS (Nat.ne_of_lt (Nat.lt_of_lt_of_le (Nat.lt_of_lt_of_le (Nat.lt_of_lt_of_le (Nat.lt_of_lt_of_le (Nat.lt_of_lt_of_le (Nat.lt_of_lt_of_le (A167).lt K168.1) K169.1) K170.1) K171.1) K172.1) (Nat.le_of_eq g173.symm))) nin0)).keep K185 nin0)) ((((((((((A168.keep K169 nin0).keep K170 nin0).keep K171 nin0).keep K172 nin0).ext E173).keep K174 (ninS (Nat.ne_of_lt (Nat.lt_of_lt_of_le (Nat.lt_of_lt_of_le (Nat.lt_of_lt_of_le (Nat.lt_of_lt_of_le (Nat.lt_of_lt_of_le (A168).lt K169.1) K170.1) K171.1) K172.1) (Nat.le_of_eq g173.symm))) nin0)).keep K175 (ninS (Nat.ne_of_lt (Nat.lt_of_lt_of_le (Nat.lt_of_lt_of_le (Nat.lt_of_lt_of_le (Nat.lt_of_lt_of_le (Nat.lt_of_lt_of_le (A168).lt K169.1) K170.1) K171.1) K172.1) (Nat.le_of_eq g173.symm))) (ninS (Nat.ne_of_lt (Nat.lt_of_lt_of_le (Nat.lt_of_lt_of_le (Nat.lt_of_lt_of_le (Nat.lt_of_lt_of_le (Nat.lt_of_lt_of_le (Nat.lt_of_lt_of_le (A168).lt K169.1) K170.1) K171.1) K172.1) E173.1) g174)) nin0))).keep K176 (ninS (Nat.ne_of_lt (Nat.lt_of_lt_of_le (Nat.lt_of_lt_of_le (Nat.lt_of_lt_of_le (Nat.lt_of_lt_of_le (Nat.lt_of_lt_of_le (A168).lt K169.1) K170.1) K171.1) K172.1) (Nat.le_of_eq g173.symm))) nin0)).keep K185 nin0)) (((((((((A169.keep K170 nin0).keep K171 nin0).keep K172 nin0).ext E173).keep K174 (ninS (Nat.ne_of_lt (Nat.lt_of_lt_of_le (Nat.lt_of_lt_of_le (Nat.lt_of_lt_of_le (Nat.lt_of_lt_of_le (A169).lt K170.1) K171.1) K172.1) (Nat.le_of_eq g173.symm))) nin0)).keep K175 (ninS (Nat.ne_of_lt (Nat.lt_of_lt_of_le (Nat.lt_of_lt_of_le (Nat.lt_of_lt_of_le (Nat.lt_of_lt_of_le (A169).lt K170.1) K171.1) K172.1) (Nat.le_of_eq g173.symm))) (ninS (Nat.ne_of_lt (Nat.lt_of_lt_of_le (Nat.lt_of_lt_of_le (Nat.lt_of_lt_of_le (Nat.lt_of_lt_of_le (Nat.lt_of_lt_of_le (A169).lt K170.1) K171.1) K172.1) E173.1) g174)) nin0))).keep K176 (ninS (Nat.ne_of_lt (Nat.lt_of_lt_of_le (Nat.lt_of_lt_of_le (Nat.lt_of_lt_of_le (Nat.lt_of_lt_of_le (A169).lt K170.1) K171.1) K172.1) (Nat.le_of_eq g173.symm))) nin0)).keep K185 nin0)) (by decide) rfl rfl rfl) hown (hw _ (List.mem_of_getElem? (i := 37) rfl)) (hw _ (List.mem_of_getElem? (i := 38) rfl)) (hw _ (List.mem_of_getElem? (i := 2) rfl)) (hw _ (List.mem_of_getElem? (i := 39) rfl)) (by decide) (W := 1) (by decide) (by decide) (by rw [hml]; rfl) (argsL := [(.ref b167), (.ref b168), (.ref b169), (.int (p1 &&& (3 : Int32))), (.int (0 : Int32))]) (rest := [(.int (own_up (own_up (0 : Int32) y0_167) y0_168))]) rfl (lenOf own_pd9 rfl) rfl (Nat.le_of_eq rfl) (hb hby at_178) rfl (by decide) (by decide) ?_
        intro v186 T186 L186 X186 hQ186
        obtain ⟨hv186, N186q, e186⟩ := hQ186
        subst hv186
        have N186 := Fr.app N185 N186q
        show own_Go p.tables e below (T186.setTop (mkF m 181 #[.val (.int p1), .val (.int p2), .val (.int p3), .val (.int p4), .val (.int p5), .val (.int p6), .val (.int (p1 &&& (3 : Int32))), .val (.ref b167), .val (.ref b168), .val (.ref b169), .val (.ref b170), .val (.ref b171), .val (.ref b172), .val (.int (p2 &&& (7 : Int32))), .val (.int (((p2 &&& (7 : Int32)) + (1 : Int32)) + (((p2.toUInt32 >>> ((3 : Int32) &&& 31).toUInt32).toInt32) &&& (7 : Int32)))), .val (.int (((((p2 &&& (7 : Int32)) + (1 : Int32)) + (((p2.toUInt32 >>> ((3 : Int32) &&& 31).toUInt32).toInt32) &&& (7 : Int32))) + (1 : Int32)) + (((p2.toUInt32 >>> ((6 : Int32) &&& 31).toUInt32).toInt32) &&& (7 : Int32)))), .val (.ref b173), .val (.ref b185)] [(.int (own_ex (p1 &&& (3 : Int32)) y0_167 y0_168 y0_169)), (.int (own_up (own_up (0 : Int32) y0_167) y0_168))])) _
        refine own_icmpNo X186 hx hby at_181 (pc' := 184) rfl (teq (own_fin2 hc100 hc117 hc134)).2 ?_
        refine own_aload X186 hx hby at_184 (pc' := 186) rfl rfl rfl ?_
        refine own_iconst X186 hx hby at_186 (pc' := 187) rfl (z := (1 : Int32)) (by decide) ?_
        refine own_iaload X186 hx hby at_187 (pc' := 188) rfl hZ e186 (A185) (by decide) (v := (.int (own_up (own_up (0 : Int32) y1_167) y1_168))) rfl ?_
        refine own_aload X186 hx hby at_188 (pc' := 190) rfl rfl rfl ?_
        refine own_aload X186 hx hby at_190 (pc' := 192) rfl rfl rfl ?_
        refine own_aload X186 hx hby at_192 (pc' := 194) rfl rfl rfl ?_
        refine own_iload X186 hx hby at_194 (pc' := 196) rfl rfl ?_
        refine own_iconst X186 hx hby at_196 (pc' := 197) rfl (z := (1 : Int32)) (by decide) ?_
        refine own_callS X186 hx hZ (rm_ex l Z a0 hw [] b167 b168 b169 (p1 &&& (3 : Int32)) (1 : Int32) y1_167 y1_168 y1_169 [(.int y0_167), (.int y1_167), (.int y2_167), (.int y3_167), (.int y4_167), (.int y5_167)] [(.int y0_168), (.int y1_168), (.int y2_168), (.int y3_168), (.int y4_168), (.int y5_168)] [(.int y0_169), (.int y1_169), (.int y2_169), (.int y3_169), (.int y4_169), (.int y5_169)] T185.heap n0 (((((((((((A167.keep K168 nin0).keep K169 nin0).keep K170 nin0).keep K171 nin0).keep K172 nin0).ext E173).keep K174 (ninS (Nat.ne_of_lt (Nat.lt_of_lt_of_le (Nat.lt_of_lt_of_le (Nat.lt_of_lt_of_le (Nat.lt_of_lt_of_le (Nat.lt_of_lt_of_le (Nat.lt_of_lt_of_le (A167).lt K168.1) K169.1) K170.1) K171.1) K172.1) (Nat.le_of_eq g173.symm))) nin0)).keep K175 (ninS (Nat.ne_of_lt (Nat.lt_of_lt_of_le (Nat.lt_of_lt_of_le (Nat.lt_of_lt_of_le (Nat.lt_of_lt_of_le (Nat.lt_of_lt_of_le (Nat.lt_of_lt_of_le (A167).lt K168.1) K169.1) K170.1) K171.1) K172.1) (Nat.le_of_eq g173.symm))) (ninS (Nat.ne_of_lt (Nat.lt_of_lt_of_le (Nat.lt_of_lt_of_le (Nat.lt_of_lt_of_le (Nat.lt_of_lt_of_le (Nat.lt_of_lt_of_le (Nat.lt_of_lt_of_le (Nat.lt_of_lt_of_le (A167).lt K168.1) K169.1) K170.1) K171.1) K172.1) E173.1) g174)) nin0))).keep K176 (ninS (Nat.ne_of_lt (Nat.lt_of_lt_of_le (Nat.lt_of_lt_of_le (Nat.lt_of_lt_of_le (Nat.lt_of_lt_of_le (Nat.lt_of_lt_of_le (Nat.lt_of_lt_of_le (A167).lt K168.1) K169.1) K170.1) K171.1) K172.1) (Nat.le_of_eq g173.symm))) nin0)).keep K185 nin0)) ((((((((((A168.keep K169 nin0).keep K170 nin0).keep K171 nin0).keep K172 nin0).ext E173).keep K174 (ninS (Nat.ne_of_lt (Nat.lt_of_lt_of_le (Nat.lt_of_lt_of_le (Nat.lt_of_lt_of_le (Nat.lt_of_lt_of_le (Nat.lt_of_lt_of_le (A168).lt K169.1) K170.1) K171.1) K172.1) (Nat.le_of_eq g173.symm))) nin0)).keep K175 (ninS (Nat.ne_of_lt (Nat.lt_of_lt_of_le (Nat.lt_of_lt_of_le (Nat.lt_of_lt_of_le (Nat.lt_of_lt_of_le (Nat.lt_of_lt_of_le (A168).lt K169.1) K170.1) K171.1) K172.1) (Nat.le_of_eq g173.symm))) (ninS (Nat.ne_of_lt (Nat.lt_of_lt_of_le (Nat.lt_of_lt_of_le (Nat.lt_of_lt_of_le (Nat.lt_of_lt_of_le (Nat.lt_of_lt_of_le (Nat.lt_of_lt_of_le (A168).lt K169.1) K170.1) K171.1) K172.1) E173.1) g174)) nin0))).keep K176 (ninS (Nat.ne_of_lt (Nat.lt_of_lt_of_le (Nat.lt_of_lt_of_le (Nat.lt_of_lt_of_le (Nat.lt_of_lt_of_le (Nat.lt_of_lt_of_le (A168).lt K169.1) K170.1) K171.1) K172.1) (Nat.le_of_eq g173.symm))) nin0)).keep K185 nin0)) (((((((((A169.keep K170 nin0).keep K171 nin0).keep K172 nin0).ext E173).keep K174 (ninS (Nat.ne_of_lt (Nat.lt_of_lt_of_le (Nat.lt_of_lt_of_le (Nat.lt_of_lt_of_le (Nat.lt_of_lt_of_le (A169).lt K170.1) K171.1) K172.1) (Nat.le_of_eq g173.symm))) nin0)).keep K175 (ninS (Nat.ne_of_lt (Nat.lt_of_lt_of_le (Nat.lt_of_lt_of_le (Nat.lt_of_lt_of_le (Nat.lt_of_lt_of_le (A169).lt K170.1) K171.1) K172.1) (Nat.le_of_eq g173.symm))) (ninS (Nat.ne_of_lt (Nat.lt_of_lt_of_le (Nat.lt_of_lt_of_le (Nat.lt_of_lt_of_le (Nat.lt_of_lt_of_le (Nat.lt_of_lt_of_le (A169).lt K170.1) K171.1) K172.1) E173.1) g174)) nin0))).keep K176 (ninS (Nat.ne_of_lt (Nat.lt_of_lt_of_le (Nat.lt_of_lt_of_le (Nat.lt_of_lt_of_le (Nat.lt_of_lt_of_le (A169).lt K170.1) K171.1) K172.1) (Nat.le_of_eq g173.symm))) nin0)).keep K185 nin0)) (by decide) rfl rfl rfl) hown (hw _ (List.mem_of_getElem? (i := 37) rfl)) (hw _ (List.mem_of_getElem? (i := 38) rfl)) (hw _ (List.mem_of_getElem? (i := 2) rfl)) (hw _ (List.mem_of_getElem? (i := 39) rfl)) (by decide) (W := 1) (by decide) (by decide) (by rw [hml]; rfl) (argsL := [(.ref b167), (.ref b168), (.ref b169), (.int (p1 &&& (3 : Int32))), (.int (1 : Int32))]) (rest := [(.int (own_up (own_up (0 : Int32) y1_167) y1_168))]) rfl (lenOf own_pd9 rfl) rfl (Nat.le_of_eq rfl) (hb hby at_197) e186 (by decide) (by decide) ?_
        intro v187 T187 L187 X187 hQ187
        obtain ⟨hv187, N187q, e187⟩ := hQ187
        subst hv187
        have N187 := Fr.app N186 N187q
        show own_Go p.tables e below (T187.setTop (mkF m 200 #[.val (.int p1), .val (.int p2), .val (.int p3), .val (.int p4), .val (.int p5), .val (.int p6), .val (.int (p1 &&& (3 : Int32))), .val (.ref b167), .val (.ref b168), .val (.ref b169), .val (.ref b170), .val (.ref b171), .val (.ref b172), .val (.int (p2 &&& (7 : Int32))), .val (.int (((p2 &&& (7 : Int32)) + (1 : Int32)) + (((p2.toUInt32 >>> ((3 : Int32) &&& 31).toUInt32).toInt32) &&& (7 : Int32)))), .val (.int (((((p2 &&& (7 : Int32)) + (1 : Int32)) + (((p2.toUInt32 >>> ((3 : Int32) &&& 31).toUInt32).toInt32) &&& (7 : Int32))) + (1 : Int32)) + (((p2.toUInt32 >>> ((6 : Int32) &&& 31).toUInt32).toInt32) &&& (7 : Int32)))), .val (.ref b173), .val (.ref b185)] [(.int (own_ex (p1 &&& (3 : Int32)) y1_167 y1_168 y1_169)), (.int (own_up (own_up (0 : Int32) y1_167) y1_168))])) _
        refine own_icmpNo X187 hx hby at_200 (pc' := 203) rfl (teq (own_fin2 hc100 hc117 hc134)).2 ?_
        refine own_aload X187 hx hby at_203 (pc' := 205) rfl rfl rfl ?_
        refine own_iconst X187 hx hby at_205 (pc' := 206) rfl (z := (2 : Int32)) (by decide) ?_
        refine own_iaload X187 hx hby at_206 (pc' := 207) rfl hZ e187 (A185) (by decide) (v := (.int (own_up (own_up (0 : Int32) y2_167) y2_168))) rfl ?_
        refine own_aload X187 hx hby at_207 (pc' := 209) rfl rfl rfl ?_
        refine own_aload X187 hx hby at_209 (pc' := 211) rfl rfl rfl ?_
        refine own_aload X187 hx hby at_211 (pc' := 213) rfl rfl rfl ?_
        refine own_iload X187 hx hby at_213 (pc' := 215) rfl rfl ?_
        refine own_iconst X187 hx hby at_215 (pc' := 216) rfl (z := (2 : Int32)) (by decide) ?_
        refine own_callS X187 hx hZ (rm_ex l Z a0 hw [] b167 b168 b169 (p1 &&& (3 : Int32)) (2 : Int32) y2_167 y2_168 y2_169 [(.int y0_167), (.int y1_167), (.int y2_167), (.int y3_167), (.int y4_167), (.int y5_167)] [(.int y0_168), (.int y1_168), (.int y2_168), (.int y3_168), (.int y4_168), (.int y5_168)] [(.int y0_169), (.int y1_169), (.int y2_169), (.int y3_169), (.int y4_169), (.int y5_169)] T185.heap n0 (((((((((((A167.keep K168 nin0).keep K169 nin0).keep K170 nin0).keep K171 nin0).keep K172 nin0).ext E173).keep K174 (ninS (Nat.ne_of_lt (Nat.lt_of_lt_of_le (Nat.lt_of_lt_of_le (Nat.lt_of_lt_of_le (Nat.lt_of_lt_of_le (Nat.lt_of_lt_of_le (Nat.lt_of_lt_of_le (A167).lt K168.1) K169.1) K170.1) K171.1) K172.1) (Nat.le_of_eq g173.symm))) nin0)).keep K175 (ninS (Nat.ne_of_lt (Nat.lt_of_lt_of_le (Nat.lt_of_lt_of_le (Nat.lt_of_lt_of_le (Nat.lt_of_lt_of_le (Nat.lt_of_lt_of_le (Nat.lt_of_lt_of_le (A167).lt K168.1) K169.1) K170.1) K171.1) K172.1) (Nat.le_of_eq g173.symm))) (ninS (Nat.ne_of_lt (Nat.lt_of_lt_of_le (Nat.lt_of_lt_of_le (Nat.lt_of_lt_of_le (Nat.lt_of_lt_of_le (Nat.lt_of_lt_of_le (Nat.lt_of_lt_of_le (Nat.lt_of_lt_of_le (A167).lt K168.1) K169.1) K170.1) K171.1) K172.1) E173.1) g174)) nin0))).keep K176 (ninS (Nat.ne_of_lt (Nat.lt_of_lt_of_le (Nat.lt_of_lt_of_le (Nat.lt_of_lt_of_le (Nat.lt_of_lt_of_le (Nat.lt_of_lt_of_le (Nat.lt_of_lt_of_le (A167).lt K168.1) K169.1) K170.1) K171.1) K172.1) (Nat.le_of_eq g173.symm))) nin0)).keep K185 nin0)) ((((((((((A168.keep K169 nin0).keep K170 nin0).keep K171 nin0).keep K172 nin0).ext E173).keep K174 (ninS (Nat.ne_of_lt (Nat.lt_of_lt_of_le (Nat.lt_of_lt_of_le (Nat.lt_of_lt_of_le (Nat.lt_of_lt_of_le (Nat.lt_of_lt_of_le (A168).lt K169.1) K170.1) K171.1) K172.1) (Nat.le_of_eq g173.symm))) nin0)).keep K175 (ninS (Nat.ne_of_lt (Nat.lt_of_lt_of_le (Nat.lt_of_lt_of_le (Nat.lt_of_lt_of_le (Nat.lt_of_lt_of_le (Nat.lt_of_lt_of_le (A168).lt K169.1) K170.1) K171.1) K172.1) (Nat.le_of_eq g173.symm))) (ninS (Nat.ne_of_lt (Nat.lt_of_lt_of_le (Nat.lt_of_lt_of_le (Nat.lt_of_lt_of_le (Nat.lt_of_lt_of_le (Nat.lt_of_lt_of_le (Nat.lt_of_lt_of_le (A168).lt K169.1) K170.1) K171.1) K172.1) E173.1) g174)) nin0))).keep K176 (ninS (Nat.ne_of_lt (Nat.lt_of_lt_of_le (Nat.lt_of_lt_of_le (Nat.lt_of_lt_of_le (Nat.lt_of_lt_of_le (Nat.lt_of_lt_of_le (A168).lt K169.1) K170.1) K171.1) K172.1) (Nat.le_of_eq g173.symm))) nin0)).keep K185 nin0)) (((((((((A169.keep K170 nin0).keep K171 nin0).keep K172 nin0).ext E173).keep K174 (ninS (Nat.ne_of_lt (Nat.lt_of_lt_of_le (Nat.lt_of_lt_of_le (Nat.lt_of_lt_of_le (Nat.lt_of_lt_of_le (A169).lt K170.1) K171.1) K172.1) (Nat.le_of_eq g173.symm))) nin0)).keep K175 (ninS (Nat.ne_of_lt (Nat.lt_of_lt_of_le (Nat.lt_of_lt_of_le (Nat.lt_of_lt_of_le (Nat.lt_of_lt_of_le (A169).lt K170.1) K171.1) K172.1) (Nat.le_of_eq g173.symm))) (ninS (Nat.ne_of_lt (Nat.lt_of_lt_of_le (Nat.lt_of_lt_of_le (Nat.lt_of_lt_of_le (Nat.lt_of_lt_of_le (Nat.lt_of_lt_of_le (A169).lt K170.1) K171.1) K172.1) E173.1) g174)) nin0))).keep K176 (ninS (Nat.ne_of_lt (Nat.lt_of_lt_of_le (Nat.lt_of_lt_of_le (Nat.lt_of_lt_of_le (Nat.lt_of_lt_of_le (A169).lt K170.1) K171.1) K172.1) (Nat.le_of_eq g173.symm))) nin0)).keep K185 nin0)) (by decide) rfl rfl rfl) hown (hw _ (List.mem_of_getElem? (i := 37) rfl)) (hw _ (List.mem_of_getElem? (i := 38) rfl)) (hw _ (List.mem_of_getElem? (i := 2) rfl)) (hw _ (List.mem_of_getElem? (i := 39) rfl)) (by decide) (W := 1) (by decide) (by decide) (by rw [hml]; rfl) (argsL := [(.ref b167), (.ref b168), (.ref b169), (.int (p1 &&& (3 : Int32))), (.int (2 : Int32))]) (rest := [(.int (own_up (own_up (0 : Int32) y2_167) y2_168))]) rfl (lenOf own_pd9 rfl) rfl (Nat.le_of_eq rfl) (hb hby at_216) e187 (by decide) (by decide) ?_
        intro v188 T188 L188 X188 hQ188
        obtain ⟨hv188, N188q, e188⟩ := hQ188
        subst hv188
        have N188 := Fr.app N187 N188q
        show own_Go p.tables e below (T188.setTop (mkF m 219 #[.val (.int p1), .val (.int p2), .val (.int p3), .val (.int p4), .val (.int p5), .val (.int p6), .val (.int (p1 &&& (3 : Int32))), .val (.ref b167), .val (.ref b168), .val (.ref b169), .val (.ref b170), .val (.ref b171), .val (.ref b172), .val (.int (p2 &&& (7 : Int32))), .val (.int (((p2 &&& (7 : Int32)) + (1 : Int32)) + (((p2.toUInt32 >>> ((3 : Int32) &&& 31).toUInt32).toInt32) &&& (7 : Int32)))), .val (.int (((((p2 &&& (7 : Int32)) + (1 : Int32)) + (((p2.toUInt32 >>> ((3 : Int32) &&& 31).toUInt32).toInt32) &&& (7 : Int32))) + (1 : Int32)) + (((p2.toUInt32 >>> ((6 : Int32) &&& 31).toUInt32).toInt32) &&& (7 : Int32)))), .val (.ref b173), .val (.ref b185)] [(.int (own_ex (p1 &&& (3 : Int32)) y2_167 y2_168 y2_169)), (.int (own_up (own_up (0 : Int32) y2_167) y2_168))])) _
        refine own_icmpNo X188 hx hby at_219 (pc' := 222) rfl (teq (own_fin2 hc100 hc117 hc134)).2 ?_
        refine own_aload X188 hx hby at_222 (pc' := 224) rfl rfl rfl ?_
        refine own_iconst X188 hx hby at_224 (pc' := 225) rfl (z := (3 : Int32)) (by decide) ?_
        refine own_iaload X188 hx hby at_225 (pc' := 226) rfl hZ e188 (A185) (by decide) (v := (.int (own_up (own_up (0 : Int32) y3_167) y3_168))) rfl ?_
        refine own_aload X188 hx hby at_226 (pc' := 228) rfl rfl rfl ?_
        refine own_aload X188 hx hby at_228 (pc' := 230) rfl rfl rfl ?_
        refine own_aload X188 hx hby at_230 (pc' := 232) rfl rfl rfl ?_
        refine own_iload X188 hx hby at_232 (pc' := 234) rfl rfl ?_
        refine own_iconst X188 hx hby at_234 (pc' := 235) rfl (z := (3 : Int32)) (by decide) ?_
        refine own_callS X188 hx hZ (rm_ex l Z a0 hw [] b167 b168 b169 (p1 &&& (3 : Int32)) (3 : Int32) y3_167 y3_168 y3_169 [(.int y0_167), (.int y1_167), (.int y2_167), (.int y3_167), (.int y4_167), (.int y5_167)] [(.int y0_168), (.int y1_168), (.int y2_168), (.int y3_168), (.int y4_168), (.int y5_168)] [(.int y0_169), (.int y1_169), (.int y2_169), (.int y3_169), (.int y4_169), (.int y5_169)] T185.heap n0 (((((((((((A167.keep K168 nin0).keep K169 nin0).keep K170 nin0).keep K171 nin0).keep K172 nin0).ext E173).keep K174 (ninS (Nat.ne_of_lt (Nat.lt_of_lt_of_le (Nat.lt_of_lt_of_le (Nat.lt_of_lt_of_le (Nat.lt_of_lt_of_le (Nat.lt_of_lt_of_le (Nat.lt_of_lt_of_le (A167).lt K168.1) K169.1) K170.1) K171.1) K172.1) (Nat.le_of_eq g173.symm))) nin0)).keep K175 (ninS (Nat.ne_of_lt (Nat.lt_of_lt_of_le (Nat.lt_of_lt_of_le (Nat.lt_of_lt_of_le (Nat.lt_of_lt_of_le (Nat.lt_of_lt_of_le (Nat.lt_of_lt_of_le (A167).lt K168.1) K169.1) K170.1) K171.1) K172.1) (Nat.le_of_eq g173.symm))) (ninS (Nat.ne_of_lt (Nat.lt_of_lt_of_le (Nat.lt_of_lt_of_le (Nat.lt_of_lt_of_le (Nat.lt_of_lt_of_le (Nat.lt_of_lt_of_le (Nat.lt_of_lt_of_le (Nat.lt_of_lt_of_le (A167).lt K168.1) K169.1) K170.1) K171.1) K172.1) E173.1) g174)) nin0))).keep K176 (ninS (Nat.ne_of_lt (Nat.lt_of_lt_of_le (Nat.lt_of_lt_of_le (Nat.lt_of_lt_of_le (Nat.lt_of_lt_of_le (Nat.lt_of_lt_of_le (Nat.lt_of_lt_of_le (A167).lt K168.1) K169.1) K170.1) K171.1) K172.1) (Nat.le_of_eq g173.symm))) nin0)).keep K185 nin0)) ((((((((((A168.keep K169 nin0).keep K170 nin0).keep K171 nin0).keep K172 nin0).ext E173).keep K174 (ninS (Nat.ne_of_lt (Nat.lt_of_lt_of_le (Nat.lt_of_lt_of_le (Nat.lt_of_lt_of_le (Nat.lt_of_lt_of_le (Nat.lt_of_lt_of_le (A168).lt K169.1) K170.1) K171.1) K172.1) (Nat.le_of_eq g173.symm))) nin0)).keep K175 (ninS (Nat.ne_of_lt (Nat.lt_of_lt_of_le (Nat.lt_of_lt_of_le (Nat.lt_of_lt_of_le (Nat.lt_of_lt_of_le (Nat.lt_of_lt_of_le (A168).lt K169.1) K170.1) K171.1) K172.1) (Nat.le_of_eq g173.symm))) (ninS (Nat.ne_of_lt (Nat.lt_of_lt_of_le (Nat.lt_of_lt_of_le (Nat.lt_of_lt_of_le (Nat.lt_of_lt_of_le (Nat.lt_of_lt_of_le (Nat.lt_of_lt_of_le (A168).lt K169.1) K170.1) K171.1) K172.1) E173.1) g174)) nin0))).keep K176 (ninS (Nat.ne_of_lt (Nat.lt_of_lt_of_le (Nat.lt_of_lt_of_le (Nat.lt_of_lt_of_le (Nat.lt_of_lt_of_le (Nat.lt_of_lt_of_le (A168).lt K169.1) K170.1) K171.1) K172.1) (Nat.le_of_eq g173.symm))) nin0)).keep K185 nin0)) (((((((((A169.keep K170 nin0).keep K171 nin0).keep K172 nin0).ext E173).keep K174 (ninS (Nat.ne_of_lt (Nat.lt_of_lt_of_le (Nat.lt_of_lt_of_le (Nat.lt_of_lt_of_le (Nat.lt_of_lt_of_le (A169).lt K170.1) K171.1) K172.1) (Nat.le_of_eq g173.symm))) nin0)).keep K175 (ninS (Nat.ne_of_lt (Nat.lt_of_lt_of_le (Nat.lt_of_lt_of_le (Nat.lt_of_lt_of_le (Nat.lt_of_lt_of_le (A169).lt K170.1) K171.1) K172.1) (Nat.le_of_eq g173.symm))) (ninS (Nat.ne_of_lt (Nat.lt_of_lt_of_le (Nat.lt_of_lt_of_le (Nat.lt_of_lt_of_le (Nat.lt_of_lt_of_le (Nat.lt_of_lt_of_le (A169).lt K170.1) K171.1) K172.1) E173.1) g174)) nin0))).keep K176 (ninS (Nat.ne_of_lt (Nat.lt_of_lt_of_le (Nat.lt_of_lt_of_le (Nat.lt_of_lt_of_le (Nat.lt_of_lt_of_le (A169).lt K170.1) K171.1) K172.1) (Nat.le_of_eq g173.symm))) nin0)).keep K185 nin0)) (by decide) rfl rfl rfl) hown (hw _ (List.mem_of_getElem? (i := 37) rfl)) (hw _ (List.mem_of_getElem? (i := 38) rfl)) (hw _ (List.mem_of_getElem? (i := 2) rfl)) (hw _ (List.mem_of_getElem? (i := 39) rfl)) (by decide) (W := 1) (by decide) (by decide) (by rw [hml]; rfl) (argsL := [(.ref b167), (.ref b168), (.ref b169), (.int (p1 &&& (3 : Int32))), (.int (3 : Int32))]) (rest := [(.int (own_up (own_up (0 : Int32) y3_167) y3_168))]) rfl (lenOf own_pd9 rfl) rfl (Nat.le_of_eq rfl) (hb hby at_235) e188 (by decide) (by decide) ?_
        intro v189 T189 L189 X189 hQ189
        obtain ⟨hv189, N189q, e189⟩ := hQ189
        subst hv189
        have N189 := Fr.app N188 N189q
        show own_Go p.tables e below (T189.setTop (mkF m 238 #[.val (.int p1), .val (.int p2), .val (.int p3), .val (.int p4), .val (.int p5), .val (.int p6), .val (.int (p1 &&& (3 : Int32))), .val (.ref b167), .val (.ref b168), .val (.ref b169), .val (.ref b170), .val (.ref b171), .val (.ref b172), .val (.int (p2 &&& (7 : Int32))), .val (.int (((p2 &&& (7 : Int32)) + (1 : Int32)) + (((p2.toUInt32 >>> ((3 : Int32) &&& 31).toUInt32).toInt32) &&& (7 : Int32)))), .val (.int (((((p2 &&& (7 : Int32)) + (1 : Int32)) + (((p2.toUInt32 >>> ((3 : Int32) &&& 31).toUInt32).toInt32) &&& (7 : Int32))) + (1 : Int32)) + (((p2.toUInt32 >>> ((6 : Int32) &&& 31).toUInt32).toInt32) &&& (7 : Int32)))), .val (.ref b173), .val (.ref b185)] [(.int (own_ex (p1 &&& (3 : Int32)) y3_167 y3_168 y3_169)), (.int (own_up (own_up (0 : Int32) y3_167) y3_168))])) _
        refine own_icmpNo X189 hx hby at_238 (pc' := 241) rfl (teq (own_fin2 hc100 hc117 hc134)).2 ?_
        refine own_aload X189 hx hby at_241 (pc' := 243) rfl rfl rfl ?_
        refine own_iconst X189 hx hby at_243 (pc' := 244) rfl (z := (4 : Int32)) (by decide) ?_
        refine own_iaload X189 hx hby at_244 (pc' := 245) rfl hZ e189 (A185) (by decide) (v := (.int (own_up (own_up (0 : Int32) y4_167) y4_168))) rfl ?_
        refine own_aload X189 hx hby at_245 (pc' := 247) rfl rfl rfl ?_
        refine own_aload X189 hx hby at_247 (pc' := 249) rfl rfl rfl ?_
        refine own_aload X189 hx hby at_249 (pc' := 251) rfl rfl rfl ?_
        refine own_iload X189 hx hby at_251 (pc' := 253) rfl rfl ?_
        refine own_iconst X189 hx hby at_253 (pc' := 254) rfl (z := (4 : Int32)) (by decide) ?_
        refine own_callS X189 hx hZ (rm_ex l Z a0 hw [] b167 b168 b169 (p1 &&& (3 : Int32)) (4 : Int32) y4_167 y4_168 y4_169 [(.int y0_167), (.int y1_167), (.int y2_167), (.int y3_167), (.int y4_167), (.int y5_167)] [(.int y0_168), (.int y1_168), (.int y2_168), (.int y3_168), (.int y4_168), (.int y5_168)] [(.int y0_169), (.int y1_169), (.int y2_169), (.int y3_169), (.int y4_169), (.int y5_169)] T185.heap n0 (((((((((((A167.keep K168 nin0).keep K169 nin0).keep K170 nin0).keep K171 nin0).keep K172 nin0).ext E173).keep K174 (ninS (Nat.ne_of_lt (Nat.lt_of_lt_of_le (Nat.lt_of_lt_of_le (Nat.lt_of_lt_of_le (Nat.lt_of_lt_of_le (Nat.lt_of_lt_of_le (Nat.lt_of_lt_of_le (A167).lt K168.1) K169.1) K170.1) K171.1) K172.1) (Nat.le_of_eq g173.symm))) nin0)).keep K175 (ninS (Nat.ne_of_lt (Nat.lt_of_lt_of_le (Nat.lt_of_lt_of_le (Nat.lt_of_lt_of_le (Nat.lt_of_lt_of_le (Nat.lt_of_lt_of_le (Nat.lt_of_lt_of_le (A167).lt K168.1) K169.1) K170.1) K171.1) K172.1) (Nat.le_of_eq g173.symm))) (ninS (Nat.ne_of_lt (Nat.lt_of_lt_of_le (Nat.lt_of_lt_of_le (Nat.lt_of_lt_of_le (Nat.lt_of_lt_of_le (Nat.lt_of_lt_of_le (Nat.lt_of_lt_of_le (Nat.lt_of_lt_of_le (A167).lt K168.1) K169.1) K170.1) K171.1) K172.1) E173.1) g174)) nin0))).keep K176 (ninS (Nat.ne_of_lt (Nat.lt_of_lt_of_le (Nat.lt_of_lt_of_le (Nat.lt_of_lt_of_le (Nat.lt_of_lt_of_le (Nat.lt_of_lt_of_le (Nat.lt_of_lt_of_le (A167).lt K168.1) K169.1) K170.1) K171.1) K172.1) (Nat.le_of_eq g173.symm))) nin0)).keep K185 nin0)) ((((((((((A168.keep K169 nin0).keep K170 nin0).keep K171 nin0).keep K172 nin0).ext E173).keep K174 (ninS (Nat.ne_of_lt (Nat.lt_of_lt_of_le (Nat.lt_of_lt_of_le (Nat.lt_of_lt_of_le (Nat.lt_of_lt_of_le (Nat.lt_of_lt_of_le (A168).lt K169.1) K170.1) K171.1) K172.1) (Nat.le_of_eq g173.symm))) nin0)).keep K175 (ninS (Nat.ne_of_lt (Nat.lt_of_lt_of_le (Nat.lt_of_lt_of_le (Nat.lt_of_lt_of_le (Nat.lt_of_lt_of_le (Nat.lt_of_lt_of_le (A168).lt K169.1) K170.1) K171.1) K172.1) (Nat.le_of_eq g173.symm))) (ninS (Nat.ne_of_lt (Nat.lt_of_lt_of_le (Nat.lt_of_lt_of_le (Nat.lt_of_lt_of_le (Nat.lt_of_lt_of_le (Nat.lt_of_lt_of_le (Nat.lt_of_lt_of_le (A168).lt K169.1) K170.1) K171.1) K172.1) E173.1) g174)) nin0))).keep K176 (ninS (Nat.ne_of_lt (Nat.lt_of_lt_of_le (Nat.lt_of_lt_of_le (Nat.lt_of_lt_of_le (Nat.lt_of_lt_of_le (Nat.lt_of_lt_of_le (A168).lt K169.1) K170.1) K171.1) K172.1) (Nat.le_of_eq g173.symm))) nin0)).keep K185 nin0)) (((((((((A169.keep K170 nin0).keep K171 nin0).keep K172 nin0).ext E173).keep K174 (ninS (Nat.ne_of_lt (Nat.lt_of_lt_of_le (Nat.lt_of_lt_of_le (Nat.lt_of_lt_of_le (Nat.lt_of_lt_of_le (A169).lt K170.1) K171.1) K172.1) (Nat.le_of_eq g173.symm))) nin0)).keep K175 (ninS (Nat.ne_of_lt (Nat.lt_of_lt_of_le (Nat.lt_of_lt_of_le (Nat.lt_of_lt_of_le (Nat.lt_of_lt_of_le (A169).lt K170.1) K171.1) K172.1) (Nat.le_of_eq g173.symm))) (ninS (Nat.ne_of_lt (Nat.lt_of_lt_of_le (Nat.lt_of_lt_of_le (Nat.lt_of_lt_of_le (Nat.lt_of_lt_of_le (Nat.lt_of_lt_of_le (A169).lt K170.1) K171.1) K172.1) E173.1) g174)) nin0))).keep K176 (ninS (Nat.ne_of_lt (Nat.lt_of_lt_of_le (Nat.lt_of_lt_of_le (Nat.lt_of_lt_of_le (Nat.lt_of_lt_of_le (A169).lt K170.1) K171.1) K172.1) (Nat.le_of_eq g173.symm))) nin0)).keep K185 nin0)) (by decide) rfl rfl rfl) hown (hw _ (List.mem_of_getElem? (i := 37) rfl)) (hw _ (List.mem_of_getElem? (i := 38) rfl)) (hw _ (List.mem_of_getElem? (i := 2) rfl)) (hw _ (List.mem_of_getElem? (i := 39) rfl)) (by decide) (W := 1) (by decide) (by decide) (by rw [hml]; rfl) (argsL := [(.ref b167), (.ref b168), (.ref b169), (.int (p1 &&& (3 : Int32))), (.int (4 : Int32))]) (rest := [(.int (own_up (own_up (0 : Int32) y4_167) y4_168))]) rfl (lenOf own_pd9 rfl) rfl (Nat.le_of_eq rfl) (hb hby at_254) e189 (by decide) (by decide) ?_
        intro v190 T190 L190 X190 hQ190
        obtain ⟨hv190, N190q, e190⟩ := hQ190
        subst hv190
        have N190 := Fr.app N189 N190q
        show own_Go p.tables e below (T190.setTop (mkF m 257 #[.val (.int p1), .val (.int p2), .val (.int p3), .val (.int p4), .val (.int p5), .val (.int p6), .val (.int (p1 &&& (3 : Int32))), .val (.ref b167), .val (.ref b168), .val (.ref b169), .val (.ref b170), .val (.ref b171), .val (.ref b172), .val (.int (p2 &&& (7 : Int32))), .val (.int (((p2 &&& (7 : Int32)) + (1 : Int32)) + (((p2.toUInt32 >>> ((3 : Int32) &&& 31).toUInt32).toInt32) &&& (7 : Int32)))), .val (.int (((((p2 &&& (7 : Int32)) + (1 : Int32)) + (((p2.toUInt32 >>> ((3 : Int32) &&& 31).toUInt32).toInt32) &&& (7 : Int32))) + (1 : Int32)) + (((p2.toUInt32 >>> ((6 : Int32) &&& 31).toUInt32).toInt32) &&& (7 : Int32)))), .val (.ref b173), .val (.ref b185)] [(.int (own_ex (p1 &&& (3 : Int32)) y4_167 y4_168 y4_169)), (.int (own_up (own_up (0 : Int32) y4_167) y4_168))])) _
        refine own_icmpNo X190 hx hby at_257 (pc' := 260) rfl (teq (own_fin2 hc100 hc117 hc134)).2 ?_
        refine own_aload X190 hx hby at_260 (pc' := 262) rfl rfl rfl ?_
        refine own_iconst X190 hx hby at_262 (pc' := 263) rfl (z := (5 : Int32)) (by decide) ?_
        refine own_iaload X190 hx hby at_263 (pc' := 264) rfl hZ e190 (A185) (by decide) (v := (.int (own_up (own_up (0 : Int32) y5_167) y5_168))) rfl ?_
        refine own_aload X190 hx hby at_264 (pc' := 266) rfl rfl rfl ?_
        refine own_aload X190 hx hby at_266 (pc' := 268) rfl rfl rfl ?_
        refine own_aload X190 hx hby at_268 (pc' := 270) rfl rfl rfl ?_
        refine own_iload X190 hx hby at_270 (pc' := 272) rfl rfl ?_
        refine own_iconst X190 hx hby at_272 (pc' := 273) rfl (z := (5 : Int32)) (by decide) ?_
        refine own_callS X190 hx hZ (rm_ex l Z a0 hw [] b167 b168 b169 (p1 &&& (3 : Int32)) (5 : Int32) y5_167 y5_168 y5_169 [(.int y0_167), (.int y1_167), (.int y2_167), (.int y3_167), (.int y4_167), (.int y5_167)] [(.int y0_168), (.int y1_168), (.int y2_168), (.int y3_168), (.int y4_168), (.int y5_168)] [(.int y0_169), (.int y1_169), (.int y2_169), (.int y3_169), (.int y4_169), (.int y5_169)] T185.heap n0 (((((((((((A167.keep K168 nin0).keep K169 nin0).keep K170 nin0).keep K171 nin0).keep K172 nin0).ext E173).keep K174 (ninS (Nat.ne_of_lt (Nat.lt_of_lt_of_le (Nat.lt_of_lt_of_le (Nat.lt_of_lt_of_le (Nat.lt_of_lt_of_le (Nat.lt_of_lt_of_le (Nat.lt_of_lt_of_le (A167).lt K168.1) K169.1) K170.1) K171.1) K172.1) (Nat.le_of_eq g173.symm))) nin0)).keep K175 (ninS (Nat.ne_of_lt (Nat.lt_of_lt_of_le (Nat.lt_of_lt_of_le (Nat.lt_of_lt_of_le (Nat.lt_of_lt_of_le (Nat.lt_of_lt_of_le (Nat.lt_of_lt_of_le (A167).lt K168.1) K169.1) K170.1) K171.1) K172.1) (Nat.le_of_eq g173.symm))) (ninS (Nat.ne_of_lt (Nat.lt_of_lt_of_le (Nat.lt_of_lt_of_le (Nat.lt_of_lt_of_le (Nat.lt_of_lt_of_le (Nat.lt_of_lt_of_le (Nat.lt_of_lt_of_le (Nat.lt_of_lt_of_le (A167).lt K168.1) K169.1) K170.1) K171.1) K172.1) E173.1) g174)) nin0))).keep K176 (ninS (Nat.ne_of_lt (Nat.lt_of_lt_of_le (Nat.lt_of_lt_of_le (Nat.lt_of_lt_of_le (Nat.lt_of_lt_of_le (Nat.lt_of_lt_of_le (Nat.lt_of_lt_of_le (A167).lt K168.1) K169.1) K170.1) K171.1) K172.1) (Nat.le_of_eq g173.symm))) nin0)).keep K185 nin0)) ((((((((((A168.keep K169 nin0).keep K170 nin0).keep K171 nin0).keep K172 nin0).ext E173).keep K174 (ninS (Nat.ne_of_lt (Nat.lt_of_lt_of_le (Nat.lt_of_lt_of_le (Nat.lt_of_lt_of_le (Nat.lt_of_lt_of_le (Nat.lt_of_lt_of_le (A168).lt K169.1) K170.1) K171.1) K172.1) (Nat.le_of_eq g173.symm))) nin0)).keep K175 (ninS (Nat.ne_of_lt (Nat.lt_of_lt_of_le (Nat.lt_of_lt_of_le (Nat.lt_of_lt_of_le (Nat.lt_of_lt_of_le (Nat.lt_of_lt_of_le (A168).lt K169.1) K170.1) K171.1) K172.1) (Nat.le_of_eq g173.symm))) (ninS (Nat.ne_of_lt (Nat.lt_of_lt_of_le (Nat.lt_of_lt_of_le (Nat.lt_of_lt_of_le (Nat.lt_of_lt_of_le (Nat.lt_of_lt_of_le (Nat.lt_of_lt_of_le (A168).lt K169.1) K170.1) K171.1) K172.1) E173.1) g174)) nin0))).keep K176 (ninS (Nat.ne_of_lt (Nat.lt_of_lt_of_le (Nat.lt_of_lt_of_le (Nat.lt_of_lt_of_le (Nat.lt_of_lt_of_le (Nat.lt_of_lt_of_le (A168).lt K169.1) K170.1) K171.1) K172.1) (Nat.le_of_eq g173.symm))) nin0)).keep K185 nin0)) (((((((((A169.keep K170 nin0).keep K171 nin0).keep K172 nin0).ext E173).keep K174 (ninS (Nat.ne_of_lt (Nat.lt_of_lt_of_le (Nat.lt_of_lt_of_le (Nat.lt_of_lt_of_le (Nat.lt_of_lt_of_le (A169).lt K170.1) K171.1) K172.1) (Nat.le_of_eq g173.symm))) nin0)).keep K175 (ninS (Nat.ne_of_lt (Nat.lt_of_lt_of_le (Nat.lt_of_lt_of_le (Nat.lt_of_lt_of_le (Nat.lt_of_lt_of_le (A169).lt K170.1) K171.1) K172.1) (Nat.le_of_eq g173.symm))) (ninS (Nat.ne_of_lt (Nat.lt_of_lt_of_le (Nat.lt_of_lt_of_le (Nat.lt_of_lt_of_le (Nat.lt_of_lt_of_le (Nat.lt_of_lt_of_le (A169).lt K170.1) K171.1) K172.1) E173.1) g174)) nin0))).keep K176 (ninS (Nat.ne_of_lt (Nat.lt_of_lt_of_le (Nat.lt_of_lt_of_le (Nat.lt_of_lt_of_le (Nat.lt_of_lt_of_le (A169).lt K170.1) K171.1) K172.1) (Nat.le_of_eq g173.symm))) nin0)).keep K185 nin0)) (by decide) rfl rfl rfl) hown (hw _ (List.mem_of_getElem? (i := 37) rfl)) (hw _ (List.mem_of_getElem? (i := 38) rfl)) (hw _ (List.mem_of_getElem? (i := 2) rfl)) (hw _ (List.mem_of_getElem? (i := 39) rfl)) (by decide) (W := 1) (by decide) (by decide) (by rw [hml]; rfl) (argsL := [(.ref b167), (.ref b168), (.ref b169), (.int (p1 &&& (3 : Int32))), (.int (5 : Int32))]) (rest := [(.int (own_up (own_up (0 : Int32) y5_167) y5_168))]) rfl (lenOf own_pd9 rfl) rfl (Nat.le_of_eq rfl) (hb hby at_273) e190 (by decide) (by decide) ?_
        intro v191 T191 L191 X191 hQ191
        obtain ⟨hv191, N191q, e191⟩ := hQ191
        subst hv191
        have N191 := Fr.app N190 N191q
        show own_Go p.tables e below (T191.setTop (mkF m 276 #[.val (.int p1), .val (.int p2), .val (.int p3), .val (.int p4), .val (.int p5), .val (.int p6), .val (.int (p1 &&& (3 : Int32))), .val (.ref b167), .val (.ref b168), .val (.ref b169), .val (.ref b170), .val (.ref b171), .val (.ref b172), .val (.int (p2 &&& (7 : Int32))), .val (.int (((p2 &&& (7 : Int32)) + (1 : Int32)) + (((p2.toUInt32 >>> ((3 : Int32) &&& 31).toUInt32).toInt32) &&& (7 : Int32)))), .val (.int (((((p2 &&& (7 : Int32)) + (1 : Int32)) + (((p2.toUInt32 >>> ((3 : Int32) &&& 31).toUInt32).toInt32) &&& (7 : Int32))) + (1 : Int32)) + (((p2.toUInt32 >>> ((6 : Int32) &&& 31).toUInt32).toInt32) &&& (7 : Int32)))), .val (.ref b173), .val (.ref b185)] [(.int (own_ex (p1 &&& (3 : Int32)) y5_167 y5_168 y5_169)), (.int (own_up (own_up (0 : Int32) y5_167) y5_168))])) _
        refine own_icmpNo X191 hx hby at_276 (pc' := 279) rfl (teq (own_fin2 hc100 hc117 hc134)).2 ?_
        refine own_iconst X191 hx hby at_279 (pc' := 280) rfl (z := (1 : Int32)) (by decide) ?_
        refine own_goto X191 hx hby at_280 (pc' := 284) (by decide) ?_
        exact own_retZ (t := .boolean) X191 hx hret (by simp) (hb hby at_284) hlk (by decide) (by decide) ⟨congrArg (fun z => some (Value.int z)) (own_nar1), N191⟩
    · skip
      refine own_icmpYes X175 hx hby at_117 (pc' := 131) (by decide) (flt hc117).2.2.2 ?_
      refine own_iload X175 hx hby at_131 (pc' := 133) rfl rfl ?_
      refine own_iconst X175 hx hby at_133 (pc' := 134) rfl (z := (2 : Int32)) (by decide) ?_
      by_cases hc134 : (2 : Int32) < (p1 &&& (3 : Int32))
      · skip
        exact (own_no2 hc117 hc134).elim
      · skip
        refine own_icmpYes X175 hx hby at_134 (pc' := 148) (by decide) (flt hc134).2.2.2 ?_
        refine own_aload X175 hx hby at_148 (pc' := 150) rfl rfl rfl ?_
        refine own_callV X175 hx hZ (rm_cs1 l Z a0 hw [] b173 d174 aC vC (p2 &&& (7 : Int32)) y0_167 y1_167 y2_167 y3_167 y4_167 y5_167 m0_170 m1_170 T175.heap n0 ((((((((((O_0.keep K167 all0).keep K168 all0).keep K169 all0).keep K170 all0).keep K171 all0).keep K172 all0).ext E173).keep K174 (allS l173 all0)).keep K175 (allS l173 (allS l174 all0)))) S_S S_C A_C hC (E175) (F175) (G175) (A175)) hown (hw _ (List.mem_of_getElem? (i := 30) rfl)) (hw _ (List.mem_of_getElem? (i := 31) rfl)) (hw _ (List.mem_of_getElem? (i := 33) rfl)) (hw _ (List.mem_of_getElem? (i := 32) rfl)) (hw _ (List.mem_of_getElem? (i := 34) rfl)) (hw _ (List.mem_of_getElem? (i := 14) rfl)) (by decide) E175 (W := 0) (by decide) (by decide) (by rw [hml]; rfl) (argsL := []) (rest := []) rfl (lenOf own_pd8 rfl) rfl (Nat.le_of_eq rfl) (hb hby at_150) rfl (by decide) (by decide) ?_
        intro v192 T192 L192 X192 hQ192
        obtain ⟨b192, hv192, N192q, K192, g192, A192⟩ := hQ192
        subst hv192
        have N192 := Fr.app N175 N192q
        show own_Go p.tables e below (T192.setTop (mkF m 153 #[.val (.int p1), .val (.int p2), .val (.int p3), .val (.int p4), .val (.int p5), .val (.int p6), .val (.int (p1 &&& (3 : Int32))), .val (.ref b167), .val (.ref b168), .val (.ref b169), .val (.ref b170), .val (.ref b171), .val (.ref b172), .val (.int (p2 &&& (7 : Int32))), .val (.int (((p2 &&& (7 : Int32)) + (1 : Int32)) + (((p2.toUInt32 >>> ((3 : Int32) &&& 31).toUInt32).toInt32) &&& (7 : Int32)))), .val (.int (((((p2 &&& (7 : Int32)) + (1 : Int32)) + (((p2.toUInt32 >>> ((3 : Int32) &&& 31).toUInt32).toInt32) &&& (7 : Int32))) + (1 : Int32)) + (((p2.toUInt32 >>> ((6 : Int32) &&& 31).toUInt32).toInt32) &&& (7 : Int32)))), .val (.ref b173), .unset] [(.ref b192)])) _
        refine own_astore X192 hx hby at_153 (pc' := 155) rfl rfl (Ls' := #[.val (.int p1), .val (.int p2), .val (.int p3), .val (.int p4), .val (.int p5), .val (.int p6), .val (.int (p1 &&& (3 : Int32))), .val (.ref b167), .val (.ref b168), .val (.ref b169), .val (.ref b170), .val (.ref b171), .val (.ref b172), .val (.int (p2 &&& (7 : Int32))), .val (.int (((p2 &&& (7 : Int32)) + (1 : Int32)) + (((p2.toUInt32 >>> ((3 : Int32) &&& 31).toUInt32).toInt32) &&& (7 : Int32)))), .val (.int (((((p2 &&& (7 : Int32)) + (1 : Int32)) + (((p2.toUInt32 >>> ((3 : Int32) &&& 31).toUInt32).toInt32) &&& (7 : Int32))) + (1 : Int32)) + (((p2.toUInt32 >>> ((6 : Int32) &&& 31).toUInt32).toInt32) &&& (7 : Int32)))), .val (.ref b173), .val (.ref b192)]) rfl ?_
        refine own_aload X192 hx hby at_155 (pc' := 157) rfl rfl rfl ?_
        refine own_len X192 hx hby at_157 (pc' := 158) rfl hZ rfl (A192) (n := (6 : Int32)) (by rfl) ?_
        refine own_bipush X192 hx hby at_158 (pc' := 160) rfl (z := (6 : Int32)) (by decide) ?_
        refine own_icmpYes X192 hx hby at_160 (pc' := 165) (by decide) (by decide) ?_
        refine own_aload X192 hx hby at_165 (pc' := 167) rfl rfl rfl ?_
        refine own_iconst X192 hx hby at_167 (pc' := 168) rfl (z := (0 : Int32)) (by decide) ?_
        refine own_iaload X192 hx hby at_168 (pc' := 169) rfl hZ rfl (A192) (by decide) (v := (.int (own_up (0 : Int32) y0_167))) rfl ?_
        refine own_aload X192 hx hby at_169 (pc' := 171) rfl rfl rfl ?_
        refine own_aload X192 hx hby at_171 (pc' := 173) rfl rfl rfl ?_
        refine own_aload X192 hx hby at_173 (pc' := 175) rfl rfl rfl ?_
        refine own_iload X192 hx hby at_175 (pc' := 177) rfl rfl ?_
        refine own_iconst X192 hx hby at_177 (pc' := 178) rfl (z := (0 : Int32)) (by decide) ?_
        refine own_callS X192 hx hZ (rm_ex l Z a0 hw [] b167 b168 b169 (p1 &&& (3 : Int32)) (0 : Int32) y0_167 y0_168 y0_169 [(.int y0_167), (.int y1_167), (.int y2_167), (.int y3_167), (.int y4_167), (.int y5_167)] [(.int y0_168), (.int y1_168), (.int y2_168), (.int y3_168), (.int y4_168), (.int y5_168)] [(.int y0_169), (.int y1_169), (.int y2_169), (.int y3_169), (.int y4_169), (.int y5_169)] T192.heap n0 ((((((((((A167.keep K168 nin0).keep K169 nin0).keep K170 nin0).keep K171 nin0).keep K172 nin0).ext E173).keep K174 (ninS (Nat.ne_of_lt (Nat.lt_of_lt_of_le (Nat.lt_of_lt_of_le (Nat.lt_of_lt_of_le (Nat.lt_of_lt_of_le (Nat.lt_of_lt_of_le (Nat.lt_of_lt_of_le (A167).lt K168.1) K169.1) K170.1) K171.1) K172.1) (Nat.le_of_eq g173.symm))) nin0)).keep K175 (ninS (Nat.ne_of_lt (Nat.lt_of_lt_of_le (Nat.lt_of_lt_of_le (Nat.lt_of_lt_of_le (Nat.lt_of_lt_of_le (Nat.lt_of_lt_of_le (Nat.lt_of_lt_of_le (A167).lt K168.1) K169.1) K170.1) K171.1) K172.1) (Nat.le_of_eq g173.symm))) (ninS (Nat.ne_of_lt (Nat.lt_of_lt_of_le (Nat.lt_of_lt_of_le (Nat.lt_of_lt_of_le (Nat.lt_of_lt_of_le (Nat.lt_of_lt_of_le (Nat.lt_of_lt_of_le (Nat.lt_of_lt_of_le (A167).lt K168.1) K169.1) K170.1) K171.1) K172.1) E173.1) g174)) nin0))).keep K192 nin0)) (((((((((A168.keep K169 nin0).keep K170 nin0).keep K171 nin0).keep K172 nin0).ext E173).keep K174 (ninS (Nat.ne_of_lt (Nat.lt_of_lt_of_le (Nat.lt_of_lt_of_le (Nat.lt_of_lt_of_le (Nat.lt_of_lt_of_le (Nat.lt_of_lt_of_le (A168).lt K169.1) K170.1) K171.1) K172.1) (Nat.le_of_eq g173.symm))) nin0)).keep K175 (ninS (Nat.ne_of_lt (Nat.lt_of_lt_of_le (Nat.lt_of_lt_of_le (Nat.lt_of_lt_of_le (Nat.lt_of_lt_of_le (Nat.lt_of_lt_of_le (A168).lt K169.1) K170.1) K171.1) K172.1) (Nat.le_of_eq g173.symm))) (ninS (Nat.ne_of_lt (Nat.lt_of_lt_of_le (Nat.lt_of_lt_of_le (Nat.lt_of_lt_of_le (Nat.lt_of_lt_of_le (Nat.lt_of_lt_of_le (Nat.lt_of_lt_of_le (A168).lt K169.1) K170.1) K171.1) K172.1) E173.1) g174)) nin0))).keep K192 nin0)) ((((((((A169.keep K170 nin0).keep K171 nin0).keep K172 nin0).ext E173).keep K174 (ninS (Nat.ne_of_lt (Nat.lt_of_lt_of_le (Nat.lt_of_lt_of_le (Nat.lt_of_lt_of_le (Nat.lt_of_lt_of_le (A169).lt K170.1) K171.1) K172.1) (Nat.le_of_eq g173.symm))) nin0)).keep K175 (ninS (Nat.ne_of_lt (Nat.lt_of_lt_of_le (Nat.lt_of_lt_of_le (Nat.lt_of_lt_of_le (Nat.lt_of_lt_of_le (A169).lt K170.1) K171.1) K172.1) (Nat.le_of_eq g173.symm))) (ninS (Nat.ne_of_lt (Nat.lt_of_lt_of_le (Nat.lt_of_lt_of_le (Nat.lt_of_lt_of_le (Nat.lt_of_lt_of_le (Nat.lt_of_lt_of_le (A169).lt K170.1) K171.1) K172.1) E173.1) g174)) nin0))).keep K192 nin0)) (by decide) rfl rfl rfl) hown (hw _ (List.mem_of_getElem? (i := 37) rfl)) (hw _ (List.mem_of_getElem? (i := 38) rfl)) (hw _ (List.mem_of_getElem? (i := 2) rfl)) (hw _ (List.mem_of_getElem? (i := 39) rfl)) (by decide) (W := 1) (by decide) (by decide) (by rw [hml]; rfl) (argsL := [(.ref b167), (.ref b168), (.ref b169), (.int (p1 &&& (3 : Int32))), (.int (0 : Int32))]) (rest := [(.int (own_up (0 : Int32) y0_167))]) rfl (lenOf own_pd9 rfl) rfl (Nat.le_of_eq rfl) (hb hby at_178) rfl (by decide) (by decide) ?_
        intro v193 T193 L193 X193 hQ193
        obtain ⟨hv193, N193q, e193⟩ := hQ193
        subst hv193
        have N193 := Fr.app N192 N193q
        show own_Go p.tables e below (T193.setTop (mkF m 181 #[.val (.int p1), .val (.int p2), .val (.int p3), .val (.int p4), .val (.int p5), .val (.int p6), .val (.int (p1 &&& (3 : Int32))), .val (.ref b167), .val (.ref b168), .val (.ref b169), .val (.ref b170), .val (.ref b171), .val (.ref b172), .val (.int (p2 &&& (7 : Int32))), .val (.int (((p2 &&& (7 : Int32)) + (1 : Int32)) + (((p2.toUInt32 >>> ((3 : Int32) &&& 31).toUInt32).toInt32) &&& (7 : Int32)))), .val (.int (((((p2 &&& (7 : Int32)) + (1 : Int32)) + (((p2.toUInt32 >>> ((3 : Int32) &&& 31).toUInt32).toInt32) &&& (7 : Int32))) + (1 : Int32)) + (((p2.toUInt32 >>> ((6 : Int32) &&& 31).toUInt32).toInt32) &&& (7 : Int32)))), .val (.ref b173), .val (.ref b192)] [(.int (own_ex (p1 &&& (3 : Int32)) y0_167 y0_168 y0_169)), (.int (own_up (0 : Int32) y0_167))])) _
        refine own_icmpNo X193 hx hby at_181 (pc' := 184) rfl (teq (own_fin1 hc100 hc117 hc134)).2 ?_
        refine own_aload X193 hx hby at_184 (pc' := 186) rfl rfl rfl ?_
        refine own_iconst X193 hx hby at_186 (pc' := 187) rfl (z := (1 : Int32)) (by decide) ?_
        refine own_iaload X193 hx hby at_187 (pc' := 188) rfl hZ e193 (A192) (by decide) (v := (.int (own_up (0 : Int32) y1_167))) rfl ?_
        refine own_aload X193 hx hby at_188 (pc' := 190) rfl rfl rfl ?_
        refine own_aload X193 hx hby at_190 (pc' := 192) rfl rfl rfl ?_
        refine own_aload X193 hx hby at_192 (pc' := 194) rfl rfl rfl ?_
        refine own_iload X193 hx hby at_194 (pc' := 196) rfl rfl ?_
        refine own_iconst X193 hx hby at_196 (pc' := 197) rfl (z := (1 : Int32)) (by decide) ?_
        refine own_callS X193 hx hZ (rm_ex l Z a0 hw [] b167 b168 b169 (p1 &&& (3 : Int32)) (1 : Int32) y1_167 y1_168 y1_169 [(.int y0_167), (.int y1_167), (.int y2_167), (.int y3_167), (.int y4_167), (.int y5_167)] [(.int y0_168), (.int y1_168), (.int y2_168), (.int y3_168), (.int y4_168), (.int y5_168)] [(.int y0_169), (.int y1_169), (.int y2_169), (.int y3_169), (.int y4_169), (.int y5_169)] T192.heap n0 ((((((((((A167.keep K168 nin0).keep K169 nin0).keep K170 nin0).keep K171 nin0).keep K172 nin0).ext E173).keep K174 (ninS (Nat.ne_of_lt (Nat.lt_of_lt_of_le (Nat.lt_of_lt_of_le (Nat.lt_of_lt_of_le (Nat.lt_of_lt_of_le (Nat.lt_of_lt_of_le (Nat.lt_of_lt_of_le (A167).lt K168.1) K169.1) K170.1) K171.1) K172.1) (Nat.le_of_eq g173.symm))) nin0)).keep K175 (ninS (Nat.ne_of_lt (Nat.lt_of_lt_of_le (Nat.lt_of_lt_of_le (Nat.lt_of_lt_of_le (Nat.lt_of_lt_of_le (Nat.lt_of_lt_of_le (Nat.lt_of_lt_of_le (A167).lt K168.1) K169.1) K170.1) K171.1) K172.1) (Nat.le_of_eq g173.symm))) (ninS (Nat.ne_of_lt (Nat.lt_of_lt_of_le (Nat.lt_of_lt_of_le (Nat.lt_of_lt_of_le (Nat.lt_of_lt_of_le (Nat.lt_of_lt_of_le (Nat.lt_of_lt_of_le (Nat.lt_of_lt_of_le (A167).lt K168.1) K169.1) K170.1) K171.1) K172.1) E173.1) g174)) nin0))).keep K192 nin0)) (((((((((A168.keep K169 nin0).keep K170 nin0).keep K171 nin0).keep K172 nin0).ext E173).keep K174 (ninS (Nat.ne_of_lt (Nat.lt_of_lt_of_le (Nat.lt_of_lt_of_le (Nat.lt_of_lt_of_le (Nat.lt_of_lt_of_le (Nat.lt_of_lt_of_le (A168).lt K169.1) K170.1) K171.1) K172.1) (Nat.le_of_eq g173.symm))) nin0)).keep K175 (ninS (Nat.ne_of_lt (Nat.lt_of_lt_of_le (Nat.lt_of_lt_of_le (Nat.lt_of_lt_of_le (Nat.lt_of_lt_of_le (Nat.lt_of_lt_of_le (A168).lt K169.1) K170.1) K171.1) K172.1) (Nat.le_of_eq g173.symm))) (ninS (Nat.ne_of_lt (Nat.lt_of_lt_of_le (Nat.lt_of_lt_of_le (Nat.lt_of_lt_of_le (Nat.lt_of_lt_of_le (Nat.lt_of_lt_of_le (Nat.lt_of_lt_of_le (A168).lt K169.1) K170.1) K171.1) K172.1) E173.1) g174)) nin0))).keep K192 nin0)) ((((((((A169.keep K170 nin0).keep K171 nin0).keep K172 nin0).ext E173).keep K174 (ninS (Nat.ne_of_lt (Nat.lt_of_lt_of_le (Nat.lt_of_lt_of_le (Nat.lt_of_lt_of_le (Nat.lt_of_lt_of_le (A169).lt K170.1) K171.1) K172.1) (Nat.le_of_eq g173.symm))) nin0)).keep K175 (ninS (Nat.ne_of_lt (Nat.lt_of_lt_of_le (Nat.lt_of_lt_of_le (Nat.lt_of_lt_of_le (Nat.lt_of_lt_of_le (A169).lt K170.1) K171.1) K172.1) (Nat.le_of_eq g173.symm))) (ninS (Nat.ne_of_lt (Nat.lt_of_lt_of_le (Nat.lt_of_lt_of_le (Nat.lt_of_lt_of_le (Nat.lt_of_lt_of_le (Nat.lt_of_lt_of_le (A169).lt K170.1) K171.1) K172.1) E173.1) g174)) nin0))).keep K192 nin0)) (by decide) rfl rfl rfl) hown (hw _ (List.mem_of_getElem? (i := 37) rfl)) (hw _ (List.mem_of_getElem? (i := 38) rfl)) (hw _ (List.mem_of_getElem? (i := 2) rfl)) (hw _ (List.mem_of_getElem? (i := 39) rfl)) (by decide) (W := 1) (by decide) (by decide) (by rw [hml]; rfl) (argsL := [(.ref b167), (.ref b168), (.ref b169), (.int (p1 &&& (3 : Int32))), (.int (1 : Int32))]) (rest := [(.int (own_up (0 : Int32) y1_167))]) rfl (lenOf own_pd9 rfl) rfl (Nat.le_of_eq rfl) (hb hby at_197) e193 (by decide) (by decide) ?_
        intro v194 T194 L194 X194 hQ194
        obtain ⟨hv194, N194q, e194⟩ := hQ194
        subst hv194
        have N194 := Fr.app N193 N194q
        show own_Go p.tables e below (T194.setTop (mkF m 200 #[.val (.int p1), .val (.int p2), .val (.int p3), .val (.int p4), .val (.int p5), .val (.int p6), .val (.int (p1 &&& (3 : Int32))), .val (.ref b167), .val (.ref b168), .val (.ref b169), .val (.ref b170), .val (.ref b171), .val (.ref b172), .val (.int (p2 &&& (7 : Int32))), .val (.int (((p2 &&& (7 : Int32)) + (1 : Int32)) + (((p2.toUInt32 >>> ((3 : Int32) &&& 31).toUInt32).toInt32) &&& (7 : Int32)))), .val (.int (((((p2 &&& (7 : Int32)) + (1 : Int32)) + (((p2.toUInt32 >>> ((3 : Int32) &&& 31).toUInt32).toInt32) &&& (7 : Int32))) + (1 : Int32)) + (((p2.toUInt32 >>> ((6 : Int32) &&& 31).toUInt32).toInt32) &&& (7 : Int32)))), .val (.ref b173), .val (.ref b192)] [(.int (own_ex (p1 &&& (3 : Int32)) y1_167 y1_168 y1_169)), (.int (own_up (0 : Int32) y1_167))])) _
        refine own_icmpNo X194 hx hby at_200 (pc' := 203) rfl (teq (own_fin1 hc100 hc117 hc134)).2 ?_
        refine own_aload X194 hx hby at_203 (pc' := 205) rfl rfl rfl ?_
        refine own_iconst X194 hx hby at_205 (pc' := 206) rfl (z := (2 : Int32)) (by decide) ?_
        refine own_iaload X194 hx hby at_206 (pc' := 207) rfl hZ e194 (A192) (by decide) (v := (.int (own_up (0 : Int32) y2_167))) rfl ?_
        refine own_aload X194 hx hby at_207 (pc' := 209) rfl rfl rfl ?_
        refine own_aload X194 hx hby at_209 (pc' := 211) rfl rfl rfl ?_
        refine own_aload X194 hx hby at_211 (pc' := 213) rfl rfl rfl ?_
        refine own_iload X194 hx hby at_213 (pc' := 215) rfl rfl ?_
        refine own_iconst X194 hx hby at_215 (pc' := 216) rfl (z := (2 : Int32)) (by decide) ?_
        refine own_callS X194 hx hZ (rm_ex l Z a0 hw [] b167 b168 b169 (p1 &&& (3 : Int32)) (2 : Int32) y2_167 y2_168 y2_169 [(.int y0_167), (.int y1_167), (.int y2_167), (.int y3_167), (.int y4_167), (.int y5_167)] [(.int y0_168), (.int y1_168), (.int y2_168), (.int y3_168), (.int y4_168), (.int y5_168)] [(.int y0_169), (.int y1_169), (.int y2_169), (.int y3_169), (.int y4_169), (.int y5_169)] T192.heap n0 ((((((((((A167.keep K168 nin0).keep K169 nin0).keep K170 nin0).keep K171 nin0).keep K172 nin0).ext E173).keep K174 (ninS (Nat.ne_of_lt (Nat.lt_of_lt_of_le (Nat.lt_of_lt_of_le (Nat.lt_of_lt_of_le (Nat.lt_of_lt_of_le (Nat.lt_of_lt_of_le (Nat.lt_of_lt_of_le (A167).lt K168.1) K169.1) K170.1) K171.1) K172.1) (Nat.le_of_eq g173.symm))) nin0)).keep K175 (ninS (Nat.ne_of_lt (Nat.lt_of_lt_of_le (Nat.lt_of_lt_of_le (Nat.lt_of_lt_of_le (Nat.lt_of_lt_of_le (Nat.lt_of_lt_of_le (Nat.lt_of_lt_of_le (A167).lt K168.1) K169.1) K170.1) K171.1) K172.1) (Nat.le_of_eq g173.symm))) (ninS (Nat.ne_of_lt (Nat.lt_of_lt_of_le (Nat.lt_of_lt_of_le (Nat.lt_of_lt_of_le (Nat.lt_of_lt_of_le (Nat.lt_of_lt_of_le (Nat.lt_of_lt_of_le (Nat.lt_of_lt_of_le (A167).lt K168.1) K169.1) K170.1) K171.1) K172.1) E173.1) g174)) nin0))).keep K192 nin0)) (((((((((A168.keep K169 nin0).keep K170 nin0).keep K171 nin0).keep K172 nin0).ext E173).keep K174 (ninS (Nat.ne_of_lt (Nat.lt_of_lt_of_le (Nat.lt_of_lt_of_le (Nat.lt_of_lt_of_le (Nat.lt_of_lt_of_le (Nat.lt_of_lt_of_le (A168).lt K169.1) K170.1) K171.1) K172.1) (Nat.le_of_eq g173.symm))) nin0)).keep K175 (ninS (Nat.ne_of_lt (Nat.lt_of_lt_of_le (Nat.lt_of_lt_of_le (Nat.lt_of_lt_of_le (Nat.lt_of_lt_of_le (Nat.lt_of_lt_of_le (A168).lt K169.1) K170.1) K171.1) K172.1) (Nat.le_of_eq g173.symm))) (ninS (Nat.ne_of_lt (Nat.lt_of_lt_of_le (Nat.lt_of_lt_of_le (Nat.lt_of_lt_of_le (Nat.lt_of_lt_of_le (Nat.lt_of_lt_of_le (Nat.lt_of_lt_of_le (A168).lt K169.1) K170.1) K171.1) K172.1) E173.1) g174)) nin0))).keep K192 nin0)) ((((((((A169.keep K170 nin0).keep K171 nin0).keep K172 nin0).ext E173).keep K174 (ninS (Nat.ne_of_lt (Nat.lt_of_lt_of_le (Nat.lt_of_lt_of_le (Nat.lt_of_lt_of_le (Nat.lt_of_lt_of_le (A169).lt K170.1) K171.1) K172.1) (Nat.le_of_eq g173.symm))) nin0)).keep K175 (ninS (Nat.ne_of_lt (Nat.lt_of_lt_of_le (Nat.lt_of_lt_of_le (Nat.lt_of_lt_of_le (Nat.lt_of_lt_of_le (A169).lt K170.1) K171.1) K172.1) (Nat.le_of_eq g173.symm))) (ninS (Nat.ne_of_lt (Nat.lt_of_lt_of_le (Nat.lt_of_lt_of_le (Nat.lt_of_lt_of_le (Nat.lt_of_lt_of_le (Nat.lt_of_lt_of_le (A169).lt K170.1) K171.1) K172.1) E173.1) g174)) nin0))).keep K192 nin0)) (by decide) rfl rfl rfl) hown (hw _ (List.mem_of_getElem? (i := 37) rfl)) (hw _ (List.mem_of_getElem? (i := 38) rfl)) (hw _ (List.mem_of_getElem? (i := 2) rfl)) (hw _ (List.mem_of_getElem? (i := 39) rfl)) (by decide) (W := 1) (by decide) (by decide) (by rw [hml]; rfl) (argsL := [(.ref b167), (.ref b168), (.ref b169), (.int (p1 &&& (3 : Int32))), (.int (2 : Int32))]) (rest := [(.int (own_up (0 : Int32) y2_167))]) rfl (lenOf own_pd9 rfl) rfl (Nat.le_of_eq rfl) (hb hby at_216) e194 (by decide) (by decide) ?_
        intro v195 T195 L195 X195 hQ195
        obtain ⟨hv195, N195q, e195⟩ := hQ195
        subst hv195
        have N195 := Fr.app N194 N195q
        show own_Go p.tables e below (T195.setTop (mkF m 219 #[.val (.int p1), .val (.int p2), .val (.int p3), .val (.int p4), .val (.int p5), .val (.int p6), .val (.int (p1 &&& (3 : Int32))), .val (.ref b167), .val (.ref b168), .val (.ref b169), .val (.ref b170), .val (.ref b171), .val (.ref b172), .val (.int (p2 &&& (7 : Int32))), .val (.int (((p2 &&& (7 : Int32)) + (1 : Int32)) + (((p2.toUInt32 >>> ((3 : Int32) &&& 31).toUInt32).toInt32) &&& (7 : Int32)))), .val (.int (((((p2 &&& (7 : Int32)) + (1 : Int32)) + (((p2.toUInt32 >>> ((3 : Int32) &&& 31).toUInt32).toInt32) &&& (7 : Int32))) + (1 : Int32)) + (((p2.toUInt32 >>> ((6 : Int32) &&& 31).toUInt32).toInt32) &&& (7 : Int32)))), .val (.ref b173), .val (.ref b192)] [(.int (own_ex (p1 &&& (3 : Int32)) y2_167 y2_168 y2_169)), (.int (own_up (0 : Int32) y2_167))])) _
        refine own_icmpNo X195 hx hby at_219 (pc' := 222) rfl (teq (own_fin1 hc100 hc117 hc134)).2 ?_
        refine own_aload X195 hx hby at_222 (pc' := 224) rfl rfl rfl ?_
        refine own_iconst X195 hx hby at_224 (pc' := 225) rfl (z := (3 : Int32)) (by decide) ?_
        refine own_iaload X195 hx hby at_225 (pc' := 226) rfl hZ e195 (A192) (by decide) (v := (.int (own_up (0 : Int32) y3_167))) rfl ?_
        refine own_aload X195 hx hby at_226 (pc' := 228) rfl rfl rfl ?_
        refine own_aload X195 hx hby at_228 (pc' := 230) rfl rfl rfl ?_
        refine own_aload X195 hx hby at_230 (pc' := 232) rfl rfl rfl ?_
        refine own_iload X195 hx hby at_232 (pc' := 234) rfl rfl ?_
        refine own_iconst X195 hx hby at_234 (pc' := 235) rfl (z := (3 : Int32)) (by decide) ?_
        refine own_callS X195 hx hZ (rm_ex l Z a0 hw [] b167 b168 b169 (p1 &&& (3 : Int32)) (3 : Int32) y3_167 y3_168 y3_169 [(.int y0_167), (.int y1_167), (.int y2_167), (.int y3_167), (.int y4_167), (.int y5_167)] [(.int y0_168), (.int y1_168), (.int y2_168), (.int y3_168), (.int y4_168), (.int y5_168)] [(.int y0_169), (.int y1_169), (.int y2_169), (.int y3_169), (.int y4_169), (.int y5_169)] T192.heap n0 ((((((((((A167.keep K168 nin0).keep K169 nin0).keep K170 nin0).keep K171 nin0).keep K172 nin0).ext E173).keep K174 (ninS (Nat.ne_of_lt (Nat.lt_of_lt_of_le (Nat.lt_of_lt_of_le (Nat.lt_of_lt_of_le (Nat.lt_of_lt_of_le (Nat.lt_of_lt_of_le (Nat.lt_of_lt_of_le (A167).lt K168.1) K169.1) K170.1) K171.1) K172.1) (Nat.le_of_eq g173.symm))) nin0)).keep K175 (ninS (Nat.ne_of_lt (Nat.lt_of_lt_of_le (Nat.lt_of_lt_of_le (Nat.lt_of_lt_of_le (Nat.lt_of_lt_of_le (Nat.lt_of_lt_of_le (Nat.lt_of_lt_of_le (A167).lt K168.1) K169.1) K170.1) K171.1) K172.1) (Nat.le_of_eq g173.symm))) (ninS (Nat.ne_of_lt (Nat.lt_of_lt_of_le (Nat.lt_of_lt_of_le (Nat.lt_of_lt_of_le (Nat.lt_of_lt_of_le (Nat.lt_of_lt_of_le (Nat.lt_of_lt_of_le (Nat.lt_of_lt_of_le (A167).lt K168.1) K169.1) K170.1) K171.1) K172.1) E173.1) g174)) nin0))).keep K192 nin0)) (((((((((A168.keep K169 nin0).keep K170 nin0).keep K171 nin0).keep K172 nin0).ext E173).keep K174 (ninS (Nat.ne_of_lt (Nat.lt_of_lt_of_le (Nat.lt_of_lt_of_le (Nat.lt_of_lt_of_le (Nat.lt_of_lt_of_le (Nat.lt_of_lt_of_le (A168).lt K169.1) K170.1) K171.1) K172.1) (Nat.le_of_eq g173.symm))) nin0)).keep K175 (ninS (Nat.ne_of_lt (Nat.lt_of_lt_of_le (Nat.lt_of_lt_of_le (Nat.lt_of_lt_of_le (Nat.lt_of_lt_of_le (Nat.lt_of_lt_of_le (A168).lt K169.1) K170.1) K171.1) K172.1) (Nat.le_of_eq g173.symm))) (ninS (Nat.ne_of_lt (Nat.lt_of_lt_of_le (Nat.lt_of_lt_of_le (Nat.lt_of_lt_of_le (Nat.lt_of_lt_of_le (Nat.lt_of_lt_of_le (Nat.lt_of_lt_of_le (A168).lt K169.1) K170.1) K171.1) K172.1) E173.1) g174)) nin0))).keep K192 nin0)) ((((((((A169.keep K170 nin0).keep K171 nin0).keep K172 nin0).ext E173).keep K174 (ninS (Nat.ne_of_lt (Nat.lt_of_lt_of_le (Nat.lt_of_lt_of_le (Nat.lt_of_lt_of_le (Nat.lt_of_lt_of_le (A169).lt K170.1) K171.1) K172.1) (Nat.le_of_eq g173.symm))) nin0)).keep K175 (ninS (Nat.ne_of_lt (Nat.lt_of_lt_of_le (Nat.lt_of_lt_of_le (Nat.lt_of_lt_of_le (Nat.lt_of_lt_of_le (A169).lt K170.1) K171.1) K172.1) (Nat.le_of_eq g173.symm))) (ninS (Nat.ne_of_lt (Nat.lt_of_lt_of_le (Nat.lt_of_lt_of_le (Nat.lt_of_lt_of_le (Nat.lt_of_lt_of_le (Nat.lt_of_lt_of_le (A169).lt K170.1) K171.1) K172.1) E173.1) g174)) nin0))).keep K192 nin0)) (by decide) rfl rfl rfl) hown (hw _ (List.mem_of_getElem? (i := 37) rfl)) (hw _ (List.mem_of_getElem? (i := 38) rfl)) (hw _ (List.mem_of_getElem? (i := 2) rfl)) (hw _ (List.mem_of_getElem? (i := 39) rfl)) (by decide) (W := 1) (by decide) (by decide) (by rw [hml]; rfl) (argsL := [(.ref b167), (.ref b168), (.ref b169), (.int (p1 &&& (3 : Int32))), (.int (3 : Int32))]) (rest := [(.int (own_up (0 : Int32) y3_167))]) rfl (lenOf own_pd9 rfl) rfl (Nat.le_of_eq rfl) (hb hby at_235) e195 (by decide) (by decide) ?_
        intro v196 T196 L196 X196 hQ196
        obtain ⟨hv196, N196q, e196⟩ := hQ196
        subst hv196
        have N196 := Fr.app N195 N196q
        show own_Go p.tables e below (T196.setTop (mkF m 238 #[.val (.int p1), .val (.int p2), .val (.int p3), .val (.int p4), .val (.int p5), .val (.int p6), .val (.int (p1 &&& (3 : Int32))), .val (.ref b167), .val (.ref b168), .val (.ref b169), .val (.ref b170), .val (.ref b171), .val (.ref b172), .val (.int (p2 &&& (7 : Int32))), .val (.int (((p2 &&& (7 : Int32)) + (1 : Int32)) + (((p2.toUInt32 >>> ((3 : Int32) &&& 31).toUInt32).toInt32) &&& (7 : Int32)))), .val (.int (((((p2 &&& (7 : Int32)) + (1 : Int32)) + (((p2.toUInt32 >>> ((3 : Int32) &&& 31).toUInt32).toInt32) &&& (7 : Int32))) + (1 : Int32)) + (((p2.toUInt32 >>> ((6 : Int32) &&& 31).toUInt32).toInt32) &&& (7 : Int32)))), .val (.ref b173), .val (.ref b192)] [(.int (own_ex (p1 &&& (3 : Int32)) y3_167 y3_168 y3_169)), (.int (own_up (0 : Int32) y3_167))])) _
        refine own_icmpNo X196 hx hby at_238 (pc' := 241) rfl (teq (own_fin1 hc100 hc117 hc134)).2 ?_
        refine own_aload X196 hx hby at_241 (pc' := 243) rfl rfl rfl ?_
        refine own_iconst X196 hx hby at_243 (pc' := 244) rfl (z := (4 : Int32)) (by decide) ?_
        refine own_iaload X196 hx hby at_244 (pc' := 245) rfl hZ e196 (A192) (by decide) (v := (.int (own_up (0 : Int32) y4_167))) rfl ?_
        refine own_aload X196 hx hby at_245 (pc' := 247) rfl rfl rfl ?_
        refine own_aload X196 hx hby at_247 (pc' := 249) rfl rfl rfl ?_
        refine own_aload X196 hx hby at_249 (pc' := 251) rfl rfl rfl ?_
        refine own_iload X196 hx hby at_251 (pc' := 253) rfl rfl ?_
        refine own_iconst X196 hx hby at_253 (pc' := 254) rfl (z := (4 : Int32)) (by decide) ?_
        refine own_callS X196 hx hZ (rm_ex l Z a0 hw [] b167 b168 b169 (p1 &&& (3 : Int32)) (4 : Int32) y4_167 y4_168 y4_169 [(.int y0_167), (.int y1_167), (.int y2_167), (.int y3_167), (.int y4_167), (.int y5_167)] [(.int y0_168), (.int y1_168), (.int y2_168), (.int y3_168), (.int y4_168), (.int y5_168)] [(.int y0_169), (.int y1_169), (.int y2_169), (.int y3_169), (.int y4_169), (.int y5_169)] T192.heap n0 ((((((((((A167.keep K168 nin0).keep K169 nin0).keep K170 nin0).keep K171 nin0).keep K172 nin0).ext E173).keep K174 (ninS (Nat.ne_of_lt (Nat.lt_of_lt_of_le (Nat.lt_of_lt_of_le (Nat.lt_of_lt_of_le (Nat.lt_of_lt_of_le (Nat.lt_of_lt_of_le (Nat.lt_of_lt_of_le (A167).lt K168.1) K169.1) K170.1) K171.1) K172.1) (Nat.le_of_eq g173.symm))) nin0)).keep K175 (ninS (Nat.ne_of_lt (Nat.lt_of_lt_of_le (Nat.lt_of_lt_of_le (Nat.lt_of_lt_of_le (Nat.lt_of_lt_of_le (Nat.lt_of_lt_of_le (Nat.lt_of_lt_of_le (A167).lt K168.1) K169.1) K170.1) K171.1) K172.1) (Nat.le_of_eq g173.symm))) (ninS (Nat.ne_of_lt (Nat.lt_of_lt_of_le (Nat.lt_of_lt_of_le (Nat.lt_of_lt_of_le (Nat.lt_of_lt_of_le (Nat.lt_of_lt_of_le (Nat.lt_of_lt_of_le (Nat.lt_of_lt_of_le (A167).lt K168.1) K169.1) K170.1) K171.1) K172.1) E173.1) g174)) nin0))).keep K192 nin0)) (((((((((A168.keep K169 nin0).keep K170 nin0).keep K171 nin0).keep K172 nin0).ext E173).keep K174 (ninS (Nat.ne_of_lt (Nat.lt_of_lt_of_le (Nat.lt_of_lt_of_le (Nat.lt_of_lt_of_le (Nat.lt_of_lt_of_le (Nat.lt_of_lt_of_le (A168).lt K169.1) K170.1) K171.1) K172.1) (Nat.le_of_eq g173.symm))) nin0)).keep K175 (ninS (Nat.ne_of_lt (Nat.lt_of_lt_of_le (Nat.lt_of_lt_of_le (Nat.lt_of_lt_of_le (Nat.lt_of_lt_of_le (Nat.lt_of_lt_of_le (A168).lt K169.1) K170.1) K171.1) K172.1) (Nat.le_of_eq g173.symm))) (ninS (Nat.ne_of_lt (Nat.lt_of_lt_of_le (Nat.lt_of_lt_of_le (Nat.lt_of_lt_of_le (Nat.lt_of_lt_of_le (Nat.lt_of_lt_of_le (Nat.lt_of_lt_of_le (A168).lt K169.1) K170.1) K171.1) K172.1) E173.1) g174)) nin0))).keep K192 nin0)) ((((((((A169.keep K170 nin0).keep K171 nin0).keep K172 nin0).ext E173).keep K174 (ninS (Nat.ne_of_lt (Nat.lt_of_lt_of_le (Nat.lt_of_lt_of_le (Nat.lt_of_lt_of_le (Nat.lt_of_lt_of_le (A169).lt K170.1) K171.1) K172.1) (Nat.le_of_eq g173.symm))) nin0)).keep K175 (ninS (Nat.ne_of_lt (Nat.lt_of_lt_of_le (Nat.lt_of_lt_of_le (Nat.lt_of_lt_of_le (Nat.lt_of_lt_of_le (A169).lt K170.1) K171.1) K172.1) (Nat.le_of_eq g173.symm))) (ninS (Nat.ne_of_lt (Nat.lt_of_lt_of_le (Nat.lt_of_lt_of_le (Nat.lt_of_lt_of_le (Nat.lt_of_lt_of_le (Nat.lt_of_lt_of_le (A169).lt K170.1) K171.1) K172.1) E173.1) g174)) nin0))).keep K192 nin0)) (by decide) rfl rfl rfl) hown (hw _ (List.mem_of_getElem? (i := 37) rfl)) (hw _ (List.mem_of_getElem? (i := 38) rfl)) (hw _ (List.mem_of_getElem? (i := 2) rfl)) (hw _ (List.mem_of_getElem? (i := 39) rfl)) (by decide) (W := 1) (by decide) (by decide) (by rw [hml]; rfl) (argsL := [(.ref b167), (.ref b168), (.ref b169), (.int (p1 &&& (3 : Int32))), (.int (4 : Int32))]) (rest := [(.int (own_up (0 : Int32) y4_167))]) rfl (lenOf own_pd9 rfl) rfl (Nat.le_of_eq rfl) (hb hby at_254) e196 (by decide) (by decide) ?_
        intro v197 T197 L197 X197 hQ197
        obtain ⟨hv197, N197q, e197⟩ := hQ197
        subst hv197
        have N197 := Fr.app N196 N197q
        show own_Go p.tables e below (T197.setTop (mkF m 257 #[.val (.int p1), .val (.int p2), .val (.int p3), .val (.int p4), .val (.int p5), .val (.int p6), .val (.int (p1 &&& (3 : Int32))), .val (.ref b167), .val (.ref b168), .val (.ref b169), .val (.ref b170), .val (.ref b171), .val (.ref b172), .val (.int (p2 &&& (7 : Int32))), .val (.int (((p2 &&& (7 : Int32)) + (1 : Int32)) + (((p2.toUInt32 >>> ((3 : Int32) &&& 31).toUInt32).toInt32) &&& (7 : Int32)))), .val (.int (((((p2 &&& (7 : Int32)) + (1 : Int32)) + (((p2.toUInt32 >>> ((3 : Int32) &&& 31).toUInt32).toInt32) &&& (7 : Int32))) + (1 : Int32)) + (((p2.toUInt32 >>> ((6 : Int32) &&& 31).toUInt32).toInt32) &&& (7 : Int32)))), .val (.ref b173), .val (.ref b192)] [(.int (own_ex (p1 &&& (3 : Int32)) y4_167 y4_168 y4_169)), (.int (own_up (0 : Int32) y4_167))])) _
        refine own_icmpNo X197 hx hby at_257 (pc' := 260) rfl (teq (own_fin1 hc100 hc117 hc134)).2 ?_
        refine own_aload X197 hx hby at_260 (pc' := 262) rfl rfl rfl ?_
        refine own_iconst X197 hx hby at_262 (pc' := 263) rfl (z := (5 : Int32)) (by decide) ?_
        refine own_iaload X197 hx hby at_263 (pc' := 264) rfl hZ e197 (A192) (by decide) (v := (.int (own_up (0 : Int32) y5_167))) rfl ?_
        refine own_aload X197 hx hby at_264 (pc' := 266) rfl rfl rfl ?_
        refine own_aload X197 hx hby at_266 (pc' := 268) rfl rfl rfl ?_
        refine own_aload X197 hx hby at_268 (pc' := 270) rfl rfl rfl ?_
        refine own_iload X197 hx hby at_270 (pc' := 272) rfl rfl ?_
        refine own_iconst X197 hx hby at_272 (pc' := 273) rfl (z := (5 : Int32)) (by decide) ?_
        refine own_callS X197 hx hZ (rm_ex l Z a0 hw [] b167 b168 b169 (p1 &&& (3 : Int32)) (5 : Int32) y5_167 y5_168 y5_169 [(.int y0_167), (.int y1_167), (.int y2_167), (.int y3_167), (.int y4_167), (.int y5_167)] [(.int y0_168), (.int y1_168), (.int y2_168), (.int y3_168), (.int y4_168), (.int y5_168)] [(.int y0_169), (.int y1_169), (.int y2_169), (.int y3_169), (.int y4_169), (.int y5_169)] T192.heap n0 ((((((((((A167.keep K168 nin0).keep K169 nin0).keep K170 nin0).keep K171 nin0).keep K172 nin0).ext E173).keep K174 (ninS (Nat.ne_of_lt (Nat.lt_of_lt_of_le (Nat.lt_of_lt_of_le (Nat.lt_of_lt_of_le (Nat.lt_of_lt_of_le (Nat.lt_of_lt_of_le (Nat.lt_of_lt_of_le (A167).lt K168.1) K169.1) K170.1) K171.1) K172.1) (Nat.le_of_eq g173.symm))) nin0)).keep K175 (ninS (Nat.ne_of_lt (Nat.lt_of_lt_of_le (Nat.lt_of_lt_of_le (Nat.lt_of_lt_of_le (Nat.lt_of_lt_of_le (Nat.lt_of_lt_of_le (Nat.lt_of_lt_of_le (A167).lt K168.1) K169.1) K170.1) K171.1) K172.1) (Nat.le_of_eq g173.symm))) (ninS (Nat.ne_of_lt (Nat.lt_of_lt_of_le (Nat.lt_of_lt_of_le (Nat.lt_of_lt_of_le (Nat.lt_of_lt_of_le (Nat.lt_of_lt_of_le (Nat.lt_of_lt_of_le (Nat.lt_of_lt_of_le (A167).lt K168.1) K169.1) K170.1) K171.1) K172.1) E173.1) g174)) nin0))).keep K192 nin0)) (((((((((A168.keep K169 nin0).keep K170 nin0).keep K171 nin0).keep K172 nin0).ext E173).keep K174 (ninS (Nat.ne_of_lt (Nat.lt_of_lt_of_le (Nat.lt_of_lt_of_le (Nat.lt_of_lt_of_le (Nat.lt_of_lt_of_le (Nat.lt_of_lt_of_le (A168).lt K169.1) K170.1) K171.1) K172.1) (Nat.le_of_eq g173.symm))) nin0)).keep K175 (ninS (Nat.ne_of_lt (Nat.lt_of_lt_of_le (Nat.lt_of_lt_of_le (Nat.lt_of_lt_of_le (Nat.lt_of_lt_of_le (Nat.lt_of_lt_of_le (A168).lt K169.1) K170.1) K171.1) K172.1) (Nat.le_of_eq g173.symm))) (ninS (Nat.ne_of_lt (Nat.lt_of_lt_of_le (Nat.lt_of_lt_of_le (Nat.lt_of_lt_of_le (Nat.lt_of_lt_of_le (Nat.lt_of_lt_of_le (Nat.lt_of_lt_of_le (A168).lt K169.1) K170.1) K171.1) K172.1) E173.1) g174)) nin0))).keep K192 nin0)) ((((((((A169.keep K170 nin0).keep K171 nin0).keep K172 nin0).ext E173).keep K174 (ninS (Nat.ne_of_lt (Nat.lt_of_lt_of_le (Nat.lt_of_lt_of_le (Nat.lt_of_lt_of_le (Nat.lt_of_lt_of_le (A169).lt K170.1) K171.1) K172.1) (Nat.le_of_eq g173.symm))) nin0)).keep K175 (ninS (Nat.ne_of_lt (Nat.lt_of_lt_of_le (Nat.lt_of_lt_of_le (Nat.lt_of_lt_of_le (Nat.lt_of_lt_of_le (A169).lt K170.1) K171.1) K172.1) (Nat.le_of_eq g173.symm))) (ninS (Nat.ne_of_lt (Nat.lt_of_lt_of_le (Nat.lt_of_lt_of_le (Nat.lt_of_lt_of_le (Nat.lt_of_lt_of_le (Nat.lt_of_lt_of_le (A169).lt K170.1) K171.1) K172.1) E173.1) g174)) nin0))).keep K192 nin0)) (by decide) rfl rfl rfl) hown (hw _ (List.mem_of_getElem? (i := 37) rfl)) (hw _ (List.mem_of_getElem? (i := 38) rfl)) (hw _ (List.mem_of_getElem? (i := 2) rfl)) (hw _ (List.mem_of_getElem? (i := 39) rfl)) (by decide) (W := 1) (by decide) (by decide) (by rw [hml]; rfl) (argsL := [(.ref b167), (.ref b168), (.ref b169), (.int (p1 &&& (3 : Int32))), (.int (5 : Int32))]) (rest := [(.int (own_up (0 : Int32) y5_167))]) rfl (lenOf own_pd9 rfl) rfl (Nat.le_of_eq rfl) (hb hby at_273) e197 (by decide) (by decide) ?_
        intro v198 T198 L198 X198 hQ198
        obtain ⟨hv198, N198q, e198⟩ := hQ198
        subst hv198
        have N198 := Fr.app N197 N198q
        show own_Go p.tables e below (T198.setTop (mkF m 276 #[.val (.int p1), .val (.int p2), .val (.int p3), .val (.int p4), .val (.int p5), .val (.int p6), .val (.int (p1 &&& (3 : Int32))), .val (.ref b167), .val (.ref b168), .val (.ref b169), .val (.ref b170), .val (.ref b171), .val (.ref b172), .val (.int (p2 &&& (7 : Int32))), .val (.int (((p2 &&& (7 : Int32)) + (1 : Int32)) + (((p2.toUInt32 >>> ((3 : Int32) &&& 31).toUInt32).toInt32) &&& (7 : Int32)))), .val (.int (((((p2 &&& (7 : Int32)) + (1 : Int32)) + (((p2.toUInt32 >>> ((3 : Int32) &&& 31).toUInt32).toInt32) &&& (7 : Int32))) + (1 : Int32)) + (((p2.toUInt32 >>> ((6 : Int32) &&& 31).toUInt32).toInt32) &&& (7 : Int32)))), .val (.ref b173), .val (.ref b192)] [(.int (own_ex (p1 &&& (3 : Int32)) y5_167 y5_168 y5_169)), (.int (own_up (0 : Int32) y5_167))])) _
        refine own_icmpNo X198 hx hby at_276 (pc' := 279) rfl (teq (own_fin1 hc100 hc117 hc134)).2 ?_
        refine own_iconst X198 hx hby at_279 (pc' := 280) rfl (z := (1 : Int32)) (by decide) ?_
        refine own_goto X198 hx hby at_280 (pc' := 284) (by decide) ?_
        exact own_retZ (t := .boolean) X198 hx hret (by simp) (hb hby at_284) hlk (by decide) (by decide) ⟨congrArg (fun z => some (Value.int z)) (own_nar1), N198⟩
  · skip
    refine own_ifYes X174 hx hby at_100 (pc' := 114) (by decide) (flt hc100).2.2.2 ?_
    refine own_iload X174 hx hby at_114 (pc' := 116) rfl rfl ?_
    refine own_iconst X174 hx hby at_116 (pc' := 117) rfl (z := (1 : Int32)) (by decide) ?_
    by_cases hc117 : (1 : Int32) < (p1 &&& (3 : Int32))
    · skip
      exact (own_no1 hc100 hc117).elim
    · skip
      refine own_icmpYes X174 hx hby at_117 (pc' := 131) (by decide) (flt hc117).2.2.2 ?_
      refine own_iload X174 hx hby at_131 (pc' := 133) rfl rfl ?_
      refine own_iconst X174 hx hby at_133 (pc' := 134) rfl (z := (2 : Int32)) (by decide) ?_
      by_cases hc134 : (2 : Int32) < (p1 &&& (3 : Int32))
      · skip
        exact (own_no2 hc117 hc134).elim
      · skip
        refine own_icmpYes X174 hx hby at_134 (pc' := 148) (by decide) (flt hc134).2.2.2 ?_
        refine own_aload X174 hx hby at_148 (pc' := 150) rfl rfl rfl ?_
        refine own_callV X174 hx hZ (rm_cs0 l Z a0 hw [] b173 d174 aC vC  T174.heap n0 (((((((((O_0.keep K167 all0).keep K168 all0).keep K169 all0).keep K170 all0).keep K171 all0).keep K172 all0).ext E173).keep K174 (allS l173 all0))) S_S S_C A_C hC (E174) (F174) (G174) (A174)) hown (hw _ (List.mem_of_getElem? (i := 30) rfl)) (hw _ (List.mem_of_getElem? (i := 31) rfl)) (hw _ (List.mem_of_getElem? (i := 33) rfl)) (hw _ (List.mem_of_getElem? (i := 32) rfl)) (hw _ (List.mem_of_getElem? (i := 34) rfl)) (hw _ (List.mem_of_getElem? (i := 14) rfl)) (by decide) E174 (W := 0) (by decide) (by decide) (by rw [hml]; rfl) (argsL := []) (rest := []) rfl (lenOf own_pd8 rfl) rfl (Nat.le_of_eq rfl) (hb hby at_150) rfl (by decide) (by decide) ?_
        intro v199 T199 L199 X199 hQ199
        obtain ⟨b199, hv199, N199q, K199, g199, A199⟩ := hQ199
        subst hv199
        have N199 := Fr.app N174 N199q
        show own_Go p.tables e below (T199.setTop (mkF m 153 #[.val (.int p1), .val (.int p2), .val (.int p3), .val (.int p4), .val (.int p5), .val (.int p6), .val (.int (p1 &&& (3 : Int32))), .val (.ref b167), .val (.ref b168), .val (.ref b169), .val (.ref b170), .val (.ref b171), .val (.ref b172), .val (.int (p2 &&& (7 : Int32))), .val (.int (((p2 &&& (7 : Int32)) + (1 : Int32)) + (((p2.toUInt32 >>> ((3 : Int32) &&& 31).toUInt32).toInt32) &&& (7 : Int32)))), .val (.int (((((p2 &&& (7 : Int32)) + (1 : Int32)) + (((p2.toUInt32 >>> ((3 : Int32) &&& 31).toUInt32).toInt32) &&& (7 : Int32))) + (1 : Int32)) + (((p2.toUInt32 >>> ((6 : Int32) &&& 31).toUInt32).toInt32) &&& (7 : Int32)))), .val (.ref b173), .unset] [(.ref b199)])) _
        refine own_astore X199 hx hby at_153 (pc' := 155) rfl rfl (Ls' := #[.val (.int p1), .val (.int p2), .val (.int p3), .val (.int p4), .val (.int p5), .val (.int p6), .val (.int (p1 &&& (3 : Int32))), .val (.ref b167), .val (.ref b168), .val (.ref b169), .val (.ref b170), .val (.ref b171), .val (.ref b172), .val (.int (p2 &&& (7 : Int32))), .val (.int (((p2 &&& (7 : Int32)) + (1 : Int32)) + (((p2.toUInt32 >>> ((3 : Int32) &&& 31).toUInt32).toInt32) &&& (7 : Int32)))), .val (.int (((((p2 &&& (7 : Int32)) + (1 : Int32)) + (((p2.toUInt32 >>> ((3 : Int32) &&& 31).toUInt32).toInt32) &&& (7 : Int32))) + (1 : Int32)) + (((p2.toUInt32 >>> ((6 : Int32) &&& 31).toUInt32).toInt32) &&& (7 : Int32)))), .val (.ref b173), .val (.ref b199)]) rfl ?_
        refine own_aload X199 hx hby at_155 (pc' := 157) rfl rfl rfl ?_
        refine own_len X199 hx hby at_157 (pc' := 158) rfl hZ rfl (A199) (n := (6 : Int32)) (by rfl) ?_
        refine own_bipush X199 hx hby at_158 (pc' := 160) rfl (z := (6 : Int32)) (by decide) ?_
        refine own_icmpYes X199 hx hby at_160 (pc' := 165) (by decide) (by decide) ?_
        refine own_aload X199 hx hby at_165 (pc' := 167) rfl rfl rfl ?_
        refine own_iconst X199 hx hby at_167 (pc' := 168) rfl (z := (0 : Int32)) (by decide) ?_
        refine own_iaload X199 hx hby at_168 (pc' := 169) rfl hZ rfl (A199) (by decide) (v := (.int (0 : Int32))) rfl ?_
        refine own_aload X199 hx hby at_169 (pc' := 171) rfl rfl rfl ?_
        refine own_aload X199 hx hby at_171 (pc' := 173) rfl rfl rfl ?_
        refine own_aload X199 hx hby at_173 (pc' := 175) rfl rfl rfl ?_
        refine own_iload X199 hx hby at_175 (pc' := 177) rfl rfl ?_
        refine own_iconst X199 hx hby at_177 (pc' := 178) rfl (z := (0 : Int32)) (by decide) ?_
        refine own_callS X199 hx hZ (rm_ex l Z a0 hw [] b167 b168 b169 (p1 &&& (3 : Int32)) (0 : Int32) y0_167 y0_168 y0_169 [(.int y0_167), (.int y1_167), (.int y2_167), (.int y3_167), (.int y4_167), (.int y5_167)] [(.int y0_168), (.int y1_168), (.int y2_168), (.int y3_168), (.int y4_168), (.int y5_168)] [(.int y0_169), (.int y1_169), (.int y2_169), (.int y3_169), (.int y4_169), (.int y5_169)] T199.heap n0 (((((((((A167.keep K168 nin0).keep K169 nin0).keep K170 nin0).keep K171 nin0).keep K172 nin0).ext E173).keep K174 (ninS (Nat.ne_of_lt (Nat.lt_of_lt_of_le (Nat.lt_of_lt_of_le (Nat.lt_of_lt_of_le (Nat.lt_of_lt_of_le (Nat.lt_of_lt_of_le (Nat.lt_of_lt_of_le (A167).lt K168.1) K169.1) K170.1) K171.1) K172.1) (Nat.le_of_eq g173.symm))) nin0)).keep K199 nin0)) ((((((((A168.keep K169 nin0).keep K170 nin0).keep K171 nin0).keep K172 nin0).ext E173).keep K174 (ninS (Nat.ne_of_lt (Nat.lt_of_lt_of_le (Nat.lt_of_lt_of_le (Nat.lt_of_lt_of_le (Nat.lt_of_lt_of_le (Nat.lt_of_lt_of_le (A168).lt K169.1) K170.1) K171.1) K172.1) (Nat.le_of_eq g173.symm))) nin0)).keep K199 nin0)) (((((((A169.keep K170 nin0).keep K171 nin0).keep K172 nin0).ext E173).keep K174 (ninS (Nat.ne_of_lt (Nat.lt_of_lt_of_le (Nat.lt_of_lt_of_le (Nat.lt_of_lt_of_le (Nat.lt_of_lt_of_le (A169).lt K170.1) K171.1) K172.1) (Nat.le_of_eq g173.symm))) nin0)).keep K199 nin0)) (by decide) rfl rfl rfl) hown (hw _ (List.mem_of_getElem? (i := 37) rfl)) (hw _ (List.mem_of_getElem? (i := 38) rfl)) (hw _ (List.mem_of_getElem? (i := 2) rfl)) (hw _ (List.mem_of_getElem? (i := 39) rfl)) (by decide) (W := 1) (by decide) (by decide) (by rw [hml]; rfl) (argsL := [(.ref b167), (.ref b168), (.ref b169), (.int (p1 &&& (3 : Int32))), (.int (0 : Int32))]) (rest := [(.int (0 : Int32))]) rfl (lenOf own_pd9 rfl) rfl (Nat.le_of_eq rfl) (hb hby at_178) rfl (by decide) (by decide) ?_
        intro v200 T200 L200 X200 hQ200
        obtain ⟨hv200, N200q, e200⟩ := hQ200
        subst hv200
        have N200 := Fr.app N199 N200q
        show own_Go p.tables e below (T200.setTop (mkF m 181 #[.val (.int p1), .val (.int p2), .val (.int p3), .val (.int p4), .val (.int p5), .val (.int p6), .val (.int (p1 &&& (3 : Int32))), .val (.ref b167), .val (.ref b168), .val (.ref b169), .val (.ref b170), .val (.ref b171), .val (.ref b172), .val (.int (p2 &&& (7 : Int32))), .val (.int (((p2 &&& (7 : Int32)) + (1 : Int32)) + (((p2.toUInt32 >>> ((3 : Int32) &&& 31).toUInt32).toInt32) &&& (7 : Int32)))), .val (.int (((((p2 &&& (7 : Int32)) + (1 : Int32)) + (((p2.toUInt32 >>> ((3 : Int32) &&& 31).toUInt32).toInt32) &&& (7 : Int32))) + (1 : Int32)) + (((p2.toUInt32 >>> ((6 : Int32) &&& 31).toUInt32).toInt32) &&& (7 : Int32)))), .val (.ref b173), .val (.ref b199)] [(.int (own_ex (p1 &&& (3 : Int32)) y0_167 y0_168 y0_169)), (.int (0 : Int32))])) _
        refine own_icmpNo X200 hx hby at_181 (pc' := 184) rfl (teq (own_fin0 hc100 hc117 hc134)).2 ?_
        refine own_aload X200 hx hby at_184 (pc' := 186) rfl rfl rfl ?_
        refine own_iconst X200 hx hby at_186 (pc' := 187) rfl (z := (1 : Int32)) (by decide) ?_
        refine own_iaload X200 hx hby at_187 (pc' := 188) rfl hZ e200 (A199) (by decide) (v := (.int (0 : Int32))) rfl ?_
        refine own_aload X200 hx hby at_188 (pc' := 190) rfl rfl rfl ?_
        refine own_aload X200 hx hby at_190 (pc' := 192) rfl rfl rfl ?_
        refine own_aload X200 hx hby at_192 (pc' := 194) rfl rfl rfl ?_
        refine own_iload X200 hx hby at_194 (pc' := 196) rfl rfl ?_
        refine own_iconst X200 hx hby at_196 (pc' := 197) rfl (z := (1 : Int32)) (by decide) ?_
        refine own_callS X200 hx hZ (rm_ex l Z a0 hw [] b167 b168 b169 (p1 &&& (3 : Int32)) (1 : Int32) y1_167 y1_168 y1_169 [(.int y0_167), (.int y1_167), (.int y2_167), (.int y3_167), (.int y4_167), (.int y5_167)] [(.int y0_168), (.int y1_168), (.int y2_168), (.int y3_168), (.int y4_168), (.int y5_168)] [(.int y0_169), (.int y1_169), (.int y2_169), (.int y3_169), (.int y4_169), (.int y5_169)] T199.heap n0 (((((((((A167.keep K168 nin0).keep K169 nin0).keep K170 nin0).keep K171 nin0).keep K172 nin0).ext E173).keep K174 (ninS (Nat.ne_of_lt (Nat.lt_of_lt_of_le (Nat.lt_of_lt_of_le (Nat.lt_of_lt_of_le (Nat.lt_of_lt_of_le (Nat.lt_of_lt_of_le (Nat.lt_of_lt_of_le (A167).lt K168.1) K169.1) K170.1) K171.1) K172.1) (Nat.le_of_eq g173.symm))) nin0)).keep K199 nin0)) ((((((((A168.keep K169 nin0).keep K170 nin0).keep K171 nin0).keep K172 nin0).ext E173).keep K174 (ninS (Nat.ne_of_lt (Nat.lt_of_lt_of_le (Nat.lt_of_lt_of_le (Nat.lt_of_lt_of_le (Nat.lt_of_lt_of_le (Nat.lt_of_lt_of_le (A168).lt K169.1) K170.1) K171.1) K172.1) (Nat.le_of_eq g173.symm))) nin0)).keep K199 nin0)) (((((((A169.keep K170 nin0).keep K171 nin0).keep K172 nin0).ext E173).keep K174 (ninS (Nat.ne_of_lt (Nat.lt_of_lt_of_le (Nat.lt_of_lt_of_le (Nat.lt_of_lt_of_le (Nat.lt_of_lt_of_le (A169).lt K170.1) K171.1) K172.1) (Nat.le_of_eq g173.symm))) nin0)).keep K199 nin0)) (by decide) rfl rfl rfl) hown (hw _ (List.mem_of_getElem? (i := 37) rfl)) (hw _ (List.mem_of_getElem? (i := 38) rfl)) (hw _ (List.mem_of_getElem? (i := 2) rfl)) (hw _ (List.mem_of_getElem? (i := 39) rfl)) (by decide) (W := 1) (by decide) (by decide) (by rw [hml]; rfl) (argsL := [(.ref b167), (.ref b168), (.ref b169), (.int (p1 &&& (3 : Int32))), (.int (1 : Int32))]) (rest := [(.int (0 : Int32))]) rfl (lenOf own_pd9 rfl) rfl (Nat.le_of_eq rfl) (hb hby at_197) e200 (by decide) (by decide) ?_
        intro v201 T201 L201 X201 hQ201
        obtain ⟨hv201, N201q, e201⟩ := hQ201
        subst hv201
        have N201 := Fr.app N200 N201q
        show own_Go p.tables e below (T201.setTop (mkF m 200 #[.val (.int p1), .val (.int p2), .val (.int p3), .val (.int p4), .val (.int p5), .val (.int p6), .val (.int (p1 &&& (3 : Int32))), .val (.ref b167), .val (.ref b168), .val (.ref b169), .val (.ref b170), .val (.ref b171), .val (.ref b172), .val (.int (p2 &&& (7 : Int32))), .val (.int (((p2 &&& (7 : Int32)) + (1 : Int32)) + (((p2.toUInt32 >>> ((3 : Int32) &&& 31).toUInt32).toInt32) &&& (7 : Int32)))), .val (.int (((((p2 &&& (7 : Int32)) + (1 : Int32)) + (((p2.toUInt32 >>> ((3 : Int32) &&& 31).toUInt32).toInt32) &&& (7 : Int32))) + (1 : Int32)) + (((p2.toUInt32 >>> ((6 : Int32) &&& 31).toUInt32).toInt32) &&& (7 : Int32)))), .val (.ref b173), .val (.ref b199)] [(.int (own_ex (p1 &&& (3 : Int32)) y1_167 y1_168 y1_169)), (.int (0 : Int32))])) _
        refine own_icmpNo X201 hx hby at_200 (pc' := 203) rfl (teq (own_fin0 hc100 hc117 hc134)).2 ?_
        refine own_aload X201 hx hby at_203 (pc' := 205) rfl rfl rfl ?_
        refine own_iconst X201 hx hby at_205 (pc' := 206) rfl (z := (2 : Int32)) (by decide) ?_
        refine own_iaload X201 hx hby at_206 (pc' := 207) rfl hZ e201 (A199) (by decide) (v := (.int (0 : Int32))) rfl ?_
        refine own_aload X201 hx hby at_207 (pc' := 209) rfl rfl rfl ?_
        refine own_aload X201 hx hby at_209 (pc' := 211) rfl rfl rfl ?_
        refine own_aload X201 hx hby at_211 (pc' := 213) rfl rfl rfl ?_
        refine own_iload X201 hx hby at_213 (pc' := 215) rfl rfl ?_
        refine own_iconst X201 hx hby at_215 (pc' := 216) rfl (z := (2 : Int32)) (by decide) ?_
        refine own_callS X201 hx hZ (rm_ex l Z a0 hw [] b167 b168 b169 (p1 &&& (3 : Int32)) (2 : Int32) y2_167 y2_168 y2_169 [(.int y0_167), (.int y1_167), (.int y2_167), (.int y3_167), (.int y4_167), (.int y5_167)] [(.int y0_168), (.int y1_168), (.int y2_168), (.int y3_168), (.int y4_168), (.int y5_168)] [(.int y0_169), (.int y1_169), (.int y2_169), (.int y3_169), (.int y4_169), (.int y5_169)] T199.heap n0 (((((((((A167.keep K168 nin0).keep K169 nin0).keep K170 nin0).keep K171 nin0).keep K172 nin0).ext E173).keep K174 (ninS (Nat.ne_of_lt (Nat.lt_of_lt_of_le (Nat.lt_of_lt_of_le (Nat.lt_of_lt_of_le (Nat.lt_of_lt_of_le (Nat.lt_of_lt_of_le (Nat.lt_of_lt_of_le (A167).lt K168.1) K169.1) K170.1) K171.1) K172.1) (Nat.le_of_eq g173.symm))) nin0)).keep K199 nin0)) ((((((((A168.keep K169 nin0).keep K170 nin0).keep K171 nin0).keep K172 nin0).ext E173).keep K174 (ninS (Nat.ne_of_lt (Nat.lt_of_lt_of_le (Nat.lt_of_lt_of_le (Nat.lt_of_lt_of_le (Nat.lt_of_lt_of_le (Nat.lt_of_lt_of_le (A168).lt K169.1) K170.1) K171.1) K172.1) (Nat.le_of_eq g173.symm))) nin0)).keep K199 nin0)) (((((((A169.keep K170 nin0).keep K171 nin0).keep K172 nin0).ext E173).keep K174 (ninS (Nat.ne_of_lt (Nat.lt_of_lt_of_le (Nat.lt_of_lt_of_le (Nat.lt_of_lt_of_le (Nat.lt_of_lt_of_le (A169).lt K170.1) K171.1) K172.1) (Nat.le_of_eq g173.symm))) nin0)).keep K199 nin0)) (by decide) rfl rfl rfl) hown (hw _ (List.mem_of_getElem? (i := 37) rfl)) (hw _ (List.mem_of_getElem? (i := 38) rfl)) (hw _ (List.mem_of_getElem? (i := 2) rfl)) (hw _ (List.mem_of_getElem? (i := 39) rfl)) (by decide) (W := 1) (by decide) (by decide) (by rw [hml]; rfl) (argsL := [(.ref b167), (.ref b168), (.ref b169), (.int (p1 &&& (3 : Int32))), (.int (2 : Int32))]) (rest := [(.int (0 : Int32))]) rfl (lenOf own_pd9 rfl) rfl (Nat.le_of_eq rfl) (hb hby at_216) e201 (by decide) (by decide) ?_
        intro v202 T202 L202 X202 hQ202
        obtain ⟨hv202, N202q, e202⟩ := hQ202
        subst hv202
        have N202 := Fr.app N201 N202q
        show own_Go p.tables e below (T202.setTop (mkF m 219 #[.val (.int p1), .val (.int p2), .val (.int p3), .val (.int p4), .val (.int p5), .val (.int p6), .val (.int (p1 &&& (3 : Int32))), .val (.ref b167), .val (.ref b168), .val (.ref b169), .val (.ref b170), .val (.ref b171), .val (.ref b172), .val (.int (p2 &&& (7 : Int32))), .val (.int (((p2 &&& (7 : Int32)) + (1 : Int32)) + (((p2.toUInt32 >>> ((3 : Int32) &&& 31).toUInt32).toInt32) &&& (7 : Int32)))), .val (.int (((((p2 &&& (7 : Int32)) + (1 : Int32)) + (((p2.toUInt32 >>> ((3 : Int32) &&& 31).toUInt32).toInt32) &&& (7 : Int32))) + (1 : Int32)) + (((p2.toUInt32 >>> ((6 : Int32) &&& 31).toUInt32).toInt32) &&& (7 : Int32)))), .val (.ref b173), .val (.ref b199)] [(.int (own_ex (p1 &&& (3 : Int32)) y2_167 y2_168 y2_169)), (.int (0 : Int32))])) _
        refine own_icmpNo X202 hx hby at_219 (pc' := 222) rfl (teq (own_fin0 hc100 hc117 hc134)).2 ?_
        refine own_aload X202 hx hby at_222 (pc' := 224) rfl rfl rfl ?_
        refine own_iconst X202 hx hby at_224 (pc' := 225) rfl (z := (3 : Int32)) (by decide) ?_
        refine own_iaload X202 hx hby at_225 (pc' := 226) rfl hZ e202 (A199) (by decide) (v := (.int (0 : Int32))) rfl ?_
        refine own_aload X202 hx hby at_226 (pc' := 228) rfl rfl rfl ?_
        refine own_aload X202 hx hby at_228 (pc' := 230) rfl rfl rfl ?_
        refine own_aload X202 hx hby at_230 (pc' := 232) rfl rfl rfl ?_
        refine own_iload X202 hx hby at_232 (pc' := 234) rfl rfl ?_
        refine own_iconst X202 hx hby at_234 (pc' := 235) rfl (z := (3 : Int32)) (by decide) ?_
        refine own_callS X202 hx hZ (rm_ex l Z a0 hw [] b167 b168 b169 (p1 &&& (3 : Int32)) (3 : Int32) y3_167 y3_168 y3_169 [(.int y0_167), (.int y1_167), (.int y2_167), (.int y3_167), (.int y4_167), (.int y5_167)] [(.int y0_168), (.int y1_168), (.int y2_168), (.int y3_168), (.int y4_168), (.int y5_168)] [(.int y0_169), (.int y1_169), (.int y2_169), (.int y3_169), (.int y4_169), (.int y5_169)] T199.heap n0 (((((((((A167.keep K168 nin0).keep K169 nin0).keep K170 nin0).keep K171 nin0).keep K172 nin0).ext E173).keep K174 (ninS (Nat.ne_of_lt (Nat.lt_of_lt_of_le (Nat.lt_of_lt_of_le (Nat.lt_of_lt_of_le (Nat.lt_of_lt_of_le (Nat.lt_of_lt_of_le (Nat.lt_of_lt_of_le (A167).lt K168.1) K169.1) K170.1) K171.1) K172.1) (Nat.le_of_eq g173.symm))) nin0)).keep K199 nin0)) ((((((((A168.keep K169 nin0).keep K170 nin0).keep K171 nin0).keep K172 nin0).ext E173).keep K174 (ninS (Nat.ne_of_lt (Nat.lt_of_lt_of_le (Nat.lt_of_lt_of_le (Nat.lt_of_lt_of_le (Nat.lt_of_lt_of_le (Nat.lt_of_lt_of_le (A168).lt K169.1) K170.1) K171.1) K172.1) (Nat.le_of_eq g173.symm))) nin0)).keep K199 nin0)) (((((((A169.keep K170 nin0).keep K171 nin0).keep K172 nin0).ext E173).keep K174 (ninS (Nat.ne_of_lt (Nat.lt_of_lt_of_le (Nat.lt_of_lt_of_le (Nat.lt_of_lt_of_le (Nat.lt_of_lt_of_le (A169).lt K170.1) K171.1) K172.1) (Nat.le_of_eq g173.symm))) nin0)).keep K199 nin0)) (by decide) rfl rfl rfl) hown (hw _ (List.mem_of_getElem? (i := 37) rfl)) (hw _ (List.mem_of_getElem? (i := 38) rfl)) (hw _ (List.mem_of_getElem? (i := 2) rfl)) (hw _ (List.mem_of_getElem? (i := 39) rfl)) (by decide) (W := 1) (by decide) (by decide) (by rw [hml]; rfl) (argsL := [(.ref b167), (.ref b168), (.ref b169), (.int (p1 &&& (3 : Int32))), (.int (3 : Int32))]) (rest := [(.int (0 : Int32))]) rfl (lenOf own_pd9 rfl) rfl (Nat.le_of_eq rfl) (hb hby at_235) e202 (by decide) (by decide) ?_
        intro v203 T203 L203 X203 hQ203
        obtain ⟨hv203, N203q, e203⟩ := hQ203
        subst hv203
        have N203 := Fr.app N202 N203q
        show own_Go p.tables e below (T203.setTop (mkF m 238 #[.val (.int p1), .val (.int p2), .val (.int p3), .val (.int p4), .val (.int p5), .val (.int p6), .val (.int (p1 &&& (3 : Int32))), .val (.ref b167), .val (.ref b168), .val (.ref b169), .val (.ref b170), .val (.ref b171), .val (.ref b172), .val (.int (p2 &&& (7 : Int32))), .val (.int (((p2 &&& (7 : Int32)) + (1 : Int32)) + (((p2.toUInt32 >>> ((3 : Int32) &&& 31).toUInt32).toInt32) &&& (7 : Int32)))), .val (.int (((((p2 &&& (7 : Int32)) + (1 : Int32)) + (((p2.toUInt32 >>> ((3 : Int32) &&& 31).toUInt32).toInt32) &&& (7 : Int32))) + (1 : Int32)) + (((p2.toUInt32 >>> ((6 : Int32) &&& 31).toUInt32).toInt32) &&& (7 : Int32)))), .val (.ref b173), .val (.ref b199)] [(.int (own_ex (p1 &&& (3 : Int32)) y3_167 y3_168 y3_169)), (.int (0 : Int32))])) _
        refine own_icmpNo X203 hx hby at_238 (pc' := 241) rfl (teq (own_fin0 hc100 hc117 hc134)).2 ?_
        refine own_aload X203 hx hby at_241 (pc' := 243) rfl rfl rfl ?_
        refine own_iconst X203 hx hby at_243 (pc' := 244) rfl (z := (4 : Int32)) (by decide) ?_
        refine own_iaload X203 hx hby at_244 (pc' := 245) rfl hZ e203 (A199) (by decide) (v := (.int (0 : Int32))) rfl ?_
        refine own_aload X203 hx hby at_245 (pc' := 247) rfl rfl rfl ?_
        refine own_aload X203 hx hby at_247 (pc' := 249) rfl rfl rfl ?_
        refine own_aload X203 hx hby at_249 (pc' := 251) rfl rfl rfl ?_
        refine own_iload X203 hx hby at_251 (pc' := 253) rfl rfl ?_
        refine own_iconst X203 hx hby at_253 (pc' := 254) rfl (z := (4 : Int32)) (by decide) ?_
        refine own_callS X203 hx hZ (rm_ex l Z a0 hw [] b167 b168 b169 (p1 &&& (3 : Int32)) (4 : Int32) y4_167 y4_168 y4_169 [(.int y0_167), (.int y1_167), (.int y2_167), (.int y3_167), (.int y4_167), (.int y5_167)] [(.int y0_168), (.int y1_168), (.int y2_168), (.int y3_168), (.int y4_168), (.int y5_168)] [(.int y0_169), (.int y1_169), (.int y2_169), (.int y3_169), (.int y4_169), (.int y5_169)] T199.heap n0 (((((((((A167.keep K168 nin0).keep K169 nin0).keep K170 nin0).keep K171 nin0).keep K172 nin0).ext E173).keep K174 (ninS (Nat.ne_of_lt (Nat.lt_of_lt_of_le (Nat.lt_of_lt_of_le (Nat.lt_of_lt_of_le (Nat.lt_of_lt_of_le (Nat.lt_of_lt_of_le (Nat.lt_of_lt_of_le (A167).lt K168.1) K169.1) K170.1) K171.1) K172.1) (Nat.le_of_eq g173.symm))) nin0)).keep K199 nin0)) ((((((((A168.keep K169 nin0).keep K170 nin0).keep K171 nin0).keep K172 nin0).ext E173).keep K174 (ninS (Nat.ne_of_lt (Nat.lt_of_lt_of_le (Nat.lt_of_lt_of_le (Nat.lt_of_lt_of_le (Nat.lt_of_lt_of_le (Nat.lt_of_lt_of_le (A168).lt K169.1) K170.1) K171.1) K172.1) (Nat.le_of_eq g173.symm))) nin0)).keep K199 nin0)) (((((((A169.keep K170 nin0).keep K171 nin0).keep K172 nin0).ext E173).keep K174 (ninS (Nat.ne_of_lt (Nat.lt_of_lt_of_le (Nat.lt_of_lt_of_le (Nat.lt_of_lt_of_le (Nat.lt_of_lt_of_le (A169).lt K170.1) K171.1) K172.1) (Nat.le_of_eq g173.symm))) nin0)).keep K199 nin0)) (by decide) rfl rfl rfl) hown (hw _ (List.mem_of_getElem? (i := 37) rfl)) (hw _ (List.mem_of_getElem? (i := 38) rfl)) (hw _ (List.mem_of_getElem? (i := 2) rfl)) (hw _ (List.mem_of_getElem? (i := 39) rfl)) (by decide) (W := 1) (by decide) (by decide) (by rw [hml]; rfl) (argsL := [(.ref b167), (.ref b168), (.ref b169), (.int (p1 &&& (3 : Int32))), (.int (4 : Int32))]) (rest := [(.int (0 : Int32))]) rfl (lenOf own_pd9 rfl) rfl (Nat.le_of_eq rfl) (hb hby at_254) e203 (by decide) (by decide) ?_
        intro v204 T204 L204 X204 hQ204
        obtain ⟨hv204, N204q, e204⟩ := hQ204
        subst hv204
        have N204 := Fr.app N203 N204q
        show own_Go p.tables e below (T204.setTop (mkF m 257 #[.val (.int p1), .val (.int p2), .val (.int p3), .val (.int p4), .val (.int p5), .val (.int p6), .val (.int (p1 &&& (3 : Int32))), .val (.ref b167), .val (.ref b168), .val (.ref b169), .val (.ref b170), .val (.ref b171), .val (.ref b172), .val (.int (p2 &&& (7 : Int32))), .val (.int (((p2 &&& (7 : Int32)) + (1 : Int32)) + (((p2.toUInt32 >>> ((3 : Int32) &&& 31).toUInt32).toInt32) &&& (7 : Int32)))), .val (.int (((((p2 &&& (7 : Int32)) + (1 : Int32)) + (((p2.toUInt32 >>> ((3 : Int32) &&& 31).toUInt32).toInt32) &&& (7 : Int32))) + (1 : Int32)) + (((p2.toUInt32 >>> ((6 : Int32) &&& 31).toUInt32).toInt32) &&& (7 : Int32)))), .val (.ref b173), .val (.ref b199)] [(.int (own_ex (p1 &&& (3 : Int32)) y4_167 y4_168 y4_169)), (.int (0 : Int32))])) _
        refine own_icmpNo X204 hx hby at_257 (pc' := 260) rfl (teq (own_fin0 hc100 hc117 hc134)).2 ?_
        refine own_aload X204 hx hby at_260 (pc' := 262) rfl rfl rfl ?_
        refine own_iconst X204 hx hby at_262 (pc' := 263) rfl (z := (5 : Int32)) (by decide) ?_
        refine own_iaload X204 hx hby at_263 (pc' := 264) rfl hZ e204 (A199) (by decide) (v := (.int (0 : Int32))) rfl ?_
        refine own_aload X204 hx hby at_264 (pc' := 266) rfl rfl rfl ?_
        refine own_aload X204 hx hby at_266 (pc' := 268) rfl rfl rfl ?_
        refine own_aload X204 hx hby at_268 (pc' := 270) rfl rfl rfl ?_
        refine own_iload X204 hx hby at_270 (pc' := 272) rfl rfl ?_
        refine own_iconst X204 hx hby at_272 (pc' := 273) rfl (z := (5 : Int32)) (by decide) ?_
        refine own_callS X204 hx hZ (rm_ex l Z a0 hw [] b167 b168 b169 (p1 &&& (3 : Int32)) (5 : Int32) y5_167 y5_168 y5_169 [(.int y0_167), (.int y1_167), (.int y2_167), (.int y3_167), (.int y4_167), (.int y5_167)] [(.int y0_168), (.int y1_168), (.int y2_168), (.int y3_168), (.int y4_168), (.int y5_168)] [(.int y0_169), (.int y1_169), (.int y2_169), (.int y3_169), (.int y4_169), (.int y5_169)] T199.heap n0 (((((((((A167.keep K168 nin0).keep K169 nin0).keep K170 nin0).keep K171 nin0).keep K172 nin0).ext E173).keep K174 (ninS (Nat.ne_of_lt (Nat.lt_of_lt_of_le (Nat.lt_of_lt_of_le (Nat.lt_of_lt_of_le (Nat.lt_of_lt_of_le (Nat.lt_of_lt_of_le (Nat.lt_of_lt_of_le (A167).lt K168.1) K169.1) K170.1) K171.1) K172.1) (Nat.le_of_eq g173.symm))) nin0)).keep K199 nin0)) ((((((((A168.keep K169 nin0).keep K170 nin0).keep K171 nin0).keep K172 nin0).ext E173).keep K174 (ninS (Nat.ne_of_lt (Nat.lt_of_lt_of_le (Nat.lt_of_lt_of_le (Nat.lt_of_lt_of_le (Nat.lt_of_lt_of_le (Nat.lt_of_lt_of_le (A168).lt K169.1) K170.1) K171.1) K172.1) (Nat.le_of_eq g173.symm))) nin0)).keep K199 nin0)) (((((((A169.keep K170 nin0).keep K171 nin0).keep K172 nin0).ext E173).keep K174 (ninS (Nat.ne_of_lt (Nat.lt_of_lt_of_le (Nat.lt_of_lt_of_le (Nat.lt_of_lt_of_le (Nat.lt_of_lt_of_le (A169).lt K170.1) K171.1) K172.1) (Nat.le_of_eq g173.symm))) nin0)).keep K199 nin0)) (by decide) rfl rfl rfl) hown (hw _ (List.mem_of_getElem? (i := 37) rfl)) (hw _ (List.mem_of_getElem? (i := 38) rfl)) (hw _ (List.mem_of_getElem? (i := 2) rfl)) (hw _ (List.mem_of_getElem? (i := 39) rfl)) (by decide) (W := 1) (by decide) (by decide) (by rw [hml]; rfl) (argsL := [(.ref b167), (.ref b168), (.ref b169), (.int (p1 &&& (3 : Int32))), (.int (5 : Int32))]) (rest := [(.int (0 : Int32))]) rfl (lenOf own_pd9 rfl) rfl (Nat.le_of_eq rfl) (hb hby at_273) e204 (by decide) (by decide) ?_
        intro v205 T205 L205 X205 hQ205
        obtain ⟨hv205, N205q, e205⟩ := hQ205
        subst hv205
        have N205 := Fr.app N204 N205q
        show own_Go p.tables e below (T205.setTop (mkF m 276 #[.val (.int p1), .val (.int p2), .val (.int p3), .val (.int p4), .val (.int p5), .val (.int p6), .val (.int (p1 &&& (3 : Int32))), .val (.ref b167), .val (.ref b168), .val (.ref b169), .val (.ref b170), .val (.ref b171), .val (.ref b172), .val (.int (p2 &&& (7 : Int32))), .val (.int (((p2 &&& (7 : Int32)) + (1 : Int32)) + (((p2.toUInt32 >>> ((3 : Int32) &&& 31).toUInt32).toInt32) &&& (7 : Int32)))), .val (.int (((((p2 &&& (7 : Int32)) + (1 : Int32)) + (((p2.toUInt32 >>> ((3 : Int32) &&& 31).toUInt32).toInt32) &&& (7 : Int32))) + (1 : Int32)) + (((p2.toUInt32 >>> ((6 : Int32) &&& 31).toUInt32).toInt32) &&& (7 : Int32)))), .val (.ref b173), .val (.ref b199)] [(.int (own_ex (p1 &&& (3 : Int32)) y5_167 y5_168 y5_169)), (.int (0 : Int32))])) _
        refine own_icmpNo X205 hx hby at_276 (pc' := 279) rfl (teq (own_fin0 hc100 hc117 hc134)).2 ?_
        refine own_iconst X205 hx hby at_279 (pc' := 280) rfl (z := (1 : Int32)) (by decide) ?_
        refine own_goto X205 hx hby at_280 (pc' := 284) (by decide) ?_
        exact own_retZ (t := .boolean) X205 hx hret (by simp) (hb hby at_284) hlk (by decide) (by decide) ⟨congrArg (fun z => some (Value.int z)) (own_nar1), N205⟩
theorem own_lenI {args : Array Value} {s : State} {t : Term} {a : Addr} {cl : Cell} {ty : FieldType} {n : Int32} (ev : t.eval args s none [] s = some (.ref a)) (A : Arr s s.heap a cl ty) (q : (Term.length t).eval args s none [] s = some (.int n)) : cl.slots.toList.length.toInt32 = n := by
  have ha : s.arrayAt? a = some cl := A.fin (Vm.Alike.refl _)
  simp only [Term.eval, ev, ha, Option.bind_eq_bind, Option.bind_some] at q
  split at q
  · rw [Array.length_toList]; exact Value.int.inj (Option.some.inj q)
  · cases q
set_option maxRecDepth 65536 in
set_option maxHeartbeats 40000000 in
theorem comes_1 {Post : Tables → Env → Array Value → State → Outcome → State → Prop} (hpost : ∀ tb e args s v u, (limb_1_1.after args s (.returned v) u = true ∧ limb_1_2.after args s (.returned v) u = true ∧ True) → FrameEnd s (.returned v) u (Jvm.fieldLocs frame_1_writes args s ++ Jvm.arrayLocs frame_1_arrays args s ++ Jvm.staticLocs frame_1_statics s) 32 256 → Post tb e args s (.returned v) u) :
    ArmFor flags0 classFile x code maxLocals ret World_1 tables_1 room_1 Calls_1 rest_1 Pre_1 Post := by
  intro l hfl _ _ p e ha hc hk s m args below hf hA hF happ hP
  obtain ⟨hcalls, hrest, hpre⟩ := hP
  obtain ⟨-, -, -, hnamed, -, -, -, hat⟩ := (Spec.applies_iff hf).mp happ
  obtain ⟨hg, hn⟩ := and_e (Cond.before_iff.mp (show (Jvm.Cond.and given_1 narrow_1).before args s = true from hpre))
  obtain ⟨g206, g207⟩ := and_e hg
  obtain ⟨g208, g209⟩ := and_e g207
  obtain ⟨g210, g211⟩ := and_e g209
  obtain ⟨g212, g213⟩ := and_e g211
  obtain ⟨g214, g215⟩ := and_e g213
  obtain ⟨g216, g217⟩ := and_e g215
  obtain ⟨w0, w1, w2, w3, w4, w5, rfl⟩ : ∃ w0 w1 w2 w3 w4 w5 : Value, args = #[w0, w1, w2, w3, w4, w5] := by
    have hs : args.size = 6 := by simpa [Cond.value, given_1] using g206
    obtain ⟨L⟩ := args
    match L, hs with
    | [w0, w1, w2, w3, w4, w5], _ => exact ⟨w0, w1, w2, w3, w4, w5, rfl⟩
  have hw := fun d (hd : d ∈ tables_1) => atoms_spec (ws := Jvm.Cond.code x code maxLocals ret :: tables_1) hat d (List.mem_cons_of_mem _ hd)
  have hfit : Fit s := fun {y c} hc i hi => by
    obtain ⟨ha, rfl⟩ := Array.getElem?_eq_some_iff.mp hc
    have q := List.all_eq_true.mp ((Array.all_eq_true_iff_forall_mem.mp hF) _ (Array.getElem_mem ha)) i (List.mem_range.mpr hi)
    simpa [Array.getElem?_eq_getElem hi] using q
  obtain ⟨i0, ei0⟩ := is_v g208
  obtain rfl : w0 = (.int i0) := Option.some.inj ei0
  obtain ⟨i1, ei1⟩ := is_v g210
  obtain rfl : w1 = (.int i1) := Option.some.inj ei1
  obtain ⟨i2, ei2⟩ := is_v g212
  obtain rfl : w2 = (.int i2) := Option.some.inj ei2
  obtain ⟨i3, ei3⟩ := is_v g214
  obtain rfl : w3 = (.int i3) := Option.some.inj ei3
  obtain ⟨i4, ei4⟩ := is_v g216
  obtain rfl : w4 = (.int i4) := Option.some.inj ei4
  obtain ⟨i5, ei5⟩ := is_v g217
  obtain rfl : w5 = (.int i5) := Option.some.inj ei5
  obtain ⟨n218, n219⟩ := and_e hn
  obtain ⟨n220, n221⟩ := and_e n219
  obtain ⟨n222, n223⟩ := and_e n221
  have ev_STRIDE := own_eqI n218
  have S_STRIDE : Sta s s.heap "com/example/tag_weighted_rank/tagweightedrank/Postings" "STRIDE" "I" (.int (9 : Int32)) := Sta.start ev_STRIDE (Or.inr ⟨(hw _ (List.mem_of_getElem? (i := 14) rfl)), (hw _ (List.mem_of_getElem? (i := 19) rfl))⟩)
  obtain ⟨a_CLASSES, ev_CLASSES⟩ := arr_v n220
  have S_CLASSES : Sta s s.heap "com/example/tag_weighted_rank/tagweightedrank/Postings" "CLASSES" "[Lcom/example/tag_weighted_rank/tagweightedrank/TagClass;" (.ref a_CLASSES) := Sta.start ev_CLASSES (Or.inr ⟨(hw _ (List.mem_of_getElem? (i := 14) rfl)), (hw _ (List.mem_of_getElem? (i := 36) rfl))⟩)
  obtain ⟨cl, A_C⟩ := Arr.start ev_CLASSES n220
  have hC := own_lenI ev_CLASSES A_C (own_eqI n222)
  have ev_MARKINGS := own_eqI n223
  have S_MARKINGS : Sta s s.heap "com/example/tag_weighted_rank/tagweightedrank/Postings" "MARKINGS" "I" (.int (2 : Int32)) := Sta.start ev_MARKINGS (Or.inr ⟨(hw _ (List.mem_of_getElem? (i := 14) rfl)), (hw _ (List.mem_of_getElem? (i := 53) rfl))⟩)
  obtain ⟨n, o, h1, h2, h3, _, L, rfl, ⟨rfl, N⟩, hq⟩ := rm0 l s _ hw tables_1 i0 i1 i2 i3 i4 i5 a_CLASSES cl.slots.toList s.heap s.heap.size (Old.start s) S_STRIDE S_MARKINGS S_CLASSES ⟨cl, A_C, rfl⟩ hC p e ha hc hk s m _ below hf ((Spec.applies_iff_loose hf).mp happ).1 ⟨rfl, State.Warmed39.refl s, rfl⟩ trivial
  refine ⟨n, _, h1, h2, h3, hpost _ _ _ _ _ _ ⟨Cond.after_iff.mpr rfl, Cond.after_iff.mpr (eq_i res_at (Term.int_eval (1)) rfl), trivial⟩ ⟨hq.1, hq.2.1, (hq.2.2.sift fun y hy => Or.inr (N y hy)).mono (by decide) (by decide)⟩⟩
theorem main_1_1 : Claimed_1_1 := comes_1 fun _ _ _ _ _ _ h hF => ⟨h.1, hF⟩
theorem main_1_2 : Claimed_1_2 := comes_1 fun _ _ _ _ _ _ h hF => ⟨h.2.1, hF⟩
end Jvm.Pilot.@@N@@
namespace Jvm.Pilot.@@N@@
open Jvm Jvm.ClassFile Sem Op Lib Jvm.Free Jvm.Stand Jvm.Pilot.@@N@@.Jvm.D
/-! MADE BY PROGRAM (witnessworld.py) out of the Statement's table words and the real class files: 17 classes; the members and pool entries that the words name. The judged class is class 1, her method 1. -/
namespace start1
open Jvm.ClassFile
def u (s : String) : CpInfo := .utf8 (stringToUtf16 s)
/-- a pool by its gaps: so many unusable entries, then the entry; so many at the end -/
def gap : Nat → List CpInfo → List CpInfo
  | 0, r => r
  | n + 1, r => .unusable :: gap n r
def poolList (es : List (Nat × CpInfo)) (last : Nat) : List CpInfo := es.foldr (fun e r => gap e.1 (e.2 :: r)) (gap last [])
def pool (es : List (Nat × CpInfo)) (last : Nat) : Array CpInfo := ⟨poolList es last⟩
def fileOf (pool : Array CpInfo) (this : Nat) (attrs : Array Attribute := #[]) (ms : Array MethodInfo := #[]) (fl : Nat := 33) (sup : Nat := 0) (ifs : Array Nat := #[]) (fds : Array FieldInfo := #[]) : ClassFile where
  minorVersion := 0
  majorVersion := 65
  constantPool := pool
  accessFlags := fl
  thisClass := this
  superClass := sup
  interfaces := ifs
  fields := fds
  methods := ms
  attributes := attrs
def plain (name : String) (sup : Option ClassId) : Class where
  name := name
  kind := .ordinary
  loader := none
  accessFlags := 33
  super := sup
  interfaces := #[]
  cf := none
  fields := #[]
  methods := #[]
  instanceTypes := #[]
  staticTypes := #[]
  resolved := #[]
  callSites := []
  init := .initialized
  statics := none
  mirror := none

def pool0 : Array CpInfo := pool [(5, u "<init>"), (0, u "()V"), (1, .class_ 10), (1, u "java/lang/Object")] 113

def k0c0 : Code := { maxStack := 0, maxLocals := 1, code := object_method_1_code, exceptionTable := #[], attributes := #[] }
def k0m0 : Method := { name := "<init>", desc := "()V", sig := { parameters := [], returnType := none }, accessFlags := 1, code := some k0c0 }
/-- java/lang/Object -/
def k0 : Class := { plain "java/lang/Object" none with
  accessFlags := 33
  interfaces := #[]
  cf := some (fileOf pool0 8 #[] #[{ accessFlags := 1, nameIndex := 5, descriptorIndex := 6, attributes := #[] }] 33 0 #[] #[])
  fields := #[]
  methods := #[k0m0]
  instanceTypes := #[]
  staticTypes := #[]
  resolved := Array.replicate 124 none
  statics := none }

def pool1 : Array CpInfo := pool [(2, .class_ 4), (0, .nameAndType 5 6), (0, u "java/lang/Object"), (0, u "<init>"), (0, u "()V"), (0, .methodref 8 9), (0, .class_ 10), (0, .nameAndType 11 12), (0, u "com/example/tag_weighted_rank/tagweightedrank/PostingsClassSizesPinLaw"), (0, u "counts"), (0, u "(I)[I"), (0, .methodref 8 14), (0, .nameAndType 15 16), (0, u "marks"), (0, u "(II[I)[I"), (0, .class_ 18), (0, u "com/example/tag_weighted_rank/tagweightedrank/Postings"), (0, .methodref 17 3), (0, .methodref 17 21), (0, .nameAndType 22 23), (0, u "add"), (0, u "(I[I[I)V"), (0, .methodref 17 25), (0, .nameAndType 26 27), (0, u "classSizes"), (0, u "()[I"), (0, .methodref 8 29), (0, .nameAndType 30 31), (0, u "expected"), (0, u "([I[I[III)I"), (0, .methodref 33 34), (0, .class_ 35), (0, .nameAndType 36 37), (0, u "java/lang/Math"), (0, u "min"), (0, u "(II)I"), (0, .methodref 8 39), (0, .nameAndType 40 41), (0, u "one"), (0, u "([IIZ)I"), (2, u "law"), (0, u "(IIIIII)Z")] 5

def k1m0 : Method := { name := "<init>", desc := "()V", sig := { parameters := [], returnType := none }, accessFlags := 1, code := none }
def k1c1 : Code := { maxStack := 6, maxLocals := 18, code := code, exceptionTable := #[], attributes := #[] }
def k1m1 : Method := { name := "law", desc := "(IIIIII)Z", sig := { parameters := [.int, .int, .int, .int, .int, .int], returnType := some .boolean }, accessFlags := 9, code := some k1c1 }
def k1c2 : Code := { maxStack := 5, maxLocals := 1, code := method_3_code, exceptionTable := #[], attributes := #[] }
def k1m2 : Method := { name := "counts", desc := "(I)[I", sig := { parameters := [.int], returnType := some (.array .int) }, accessFlags := 10, code := some k1c2 }
def k1c3 : Code := { maxStack := 6, maxLocals := 3, code := method_4_code, exceptionTable := #[], attributes := #[] }
def k1m3 : Method := { name := "marks", desc := "(II[I)[I", sig := { parameters := [.int, .int, (.array .int)], returnType := some (.array .int) }, accessFlags := 10, code := some k1c3 }
def k1c4 : Code := { maxStack := 2, maxLocals := 3, code := method_5_code, exceptionTable := #[], attributes := #[] }
def k1m4 : Method := { name := "one", desc := "([IIZ)I", sig := { parameters := [(.array .int), .int, .boolean], returnType := some .int }, accessFlags := 10, code := some k1c4 }
def k1c5 : Code := { maxStack := 5, maxLocals := 5, code := method_6_code, exceptionTable := #[], attributes := #[] }
def k1m5 : Method := { name := "expected", desc := "([I[I[III)I", sig := { parameters := [(.array .int), (.array .int), (.array .int), .int, .int], returnType := some .int }, accessFlags := 10, code := some k1c5 }
/-- com/example/tag_weighted_rank/tagweightedrank/PostingsClassSizesPinLaw -/
def k1 : Class := { plain "com/example/tag_weighted_rank/tagweightedrank/PostingsClassSizesPinLaw" (some 0) with
  accessFlags := 49
  interfaces := #[]
  cf := some (fileOf pool1 8 #[] #[{ accessFlags := 1, nameIndex := 5, descriptorIndex := 6, attributes := #[] }, { accessFlags := 9, nameIndex := 44, descriptorIndex := 45, attributes := #[] }, { accessFlags := 10, nameIndex := 11, descriptorIndex := 12, attributes := #[] }, { accessFlags := 10, nameIndex := 15, descriptorIndex := 16, attributes := #[] }, { accessFlags := 10, nameIndex := 40, descriptorIndex := 41, attributes := #[] }, { accessFlags := 10, nameIndex := 30, descriptorIndex := 31, attributes := #[] }] 49 2 #[] #[])
  fields := #[]
  methods := #[k1m0, k1m1, k1m2, k1m3, k1m4, k1m5]
  instanceTypes := #[]
  staticTypes := #[]
  resolved := Array.replicate 51 none
  statics := none }

def pool2 : Array CpInfo := pool [(1, .class_ 2), (0, u "java/lang/Math"), (1, .class_ 6), (1, u "java/lang/Object"), (0, u "<init>"), (0, u "()V"), (89, .class_ 100), (1, u "java/lang/Math$RandomNumberGeneratorHolder"), (71, u "negativeZeroFloatBits"), (0, u "J"), (2, u "negativeZeroDoubleBits"), (24, u "min"), (43, u "$assertionsDisabled"), (0, u "Z"), (88, u "(II)I"), (2, u "twoToTheDoubleScaleDown"), (0, u "D"), (4, u "twoToTheDoubleScaleUp"), (9, u "E"), (3, u "PI"), (2, u "TAU"), (2, u "DEGREES_TO_RADIANS"), (0, u "RADIANS_TO_DEGREES")] 94

def k2m0 : Method := { name := "<init>", desc := "()V", sig := { parameters := [], returnType := none }, accessFlags := 2, code := none }
def k2c1 : Code := { maxStack := 2, maxLocals := 2, code := jdk_29_method_69_code, exceptionTable := #[], attributes := #[] }
def k2m1 : Method := { name := "min", desc := "(II)I", sig := { parameters := [.int, .int], returnType := some .int }, accessFlags := 9, code := some k2c1 }
/-- java/lang/Math -/
def k2 : Class := { plain "java/lang/Math" (some 0) with
  accessFlags := 49
  interfaces := #[]
  cf := some (fileOf pool2 1 #[.nestMembers #[98]] #[{ accessFlags := 2, nameIndex := 7, descriptorIndex := 8, attributes := #[] }, { accessFlags := 9, nameIndex := 201, descriptorIndex := 335, attributes := #[] }] 49 4 #[] #[{ accessFlags := 25, nameIndex := 354, descriptorIndex := 339, attributes := #[] }, { accessFlags := 25, nameIndex := 358, descriptorIndex := 339, attributes := #[] }, { accessFlags := 25, nameIndex := 361, descriptorIndex := 339, attributes := #[] }, { accessFlags := 26, nameIndex := 364, descriptorIndex := 339, attributes := #[] }, { accessFlags := 26, nameIndex := 365, descriptorIndex := 339, attributes := #[] }, { accessFlags := 26, nameIndex := 172, descriptorIndex := 173, attributes := #[] }, { accessFlags := 26, nameIndex := 176, descriptorIndex := 173, attributes := #[] }, { accessFlags := 8, nameIndex := 344, descriptorIndex := 339, attributes := #[] }, { accessFlags := 8, nameIndex := 338, descriptorIndex := 339, attributes := #[] }, { accessFlags := 4120, nameIndex := 245, descriptorIndex := 246, attributes := #[] }])
  fields := #[{ name := "E", type := .double, accessFlags := 25, slot := 0, constantValue := 0 }, { name := "PI", type := .double, accessFlags := 25, slot := 1, constantValue := 0 }, { name := "TAU", type := .double, accessFlags := 25, slot := 2, constantValue := 0 }, { name := "DEGREES_TO_RADIANS", type := .double, accessFlags := 26, slot := 3, constantValue := 0 }, { name := "RADIANS_TO_DEGREES", type := .double, accessFlags := 26, slot := 4, constantValue := 0 }, { name := "negativeZeroFloatBits", type := .long, accessFlags := 26, slot := 5, constantValue := 0 }, { name := "negativeZeroDoubleBits", type := .long, accessFlags := 26, slot := 6, constantValue := 0 }, { name := "twoToTheDoubleScaleUp", type := .double, accessFlags := 8, slot := 7, constantValue := 0 }, { name := "twoToTheDoubleScaleDown", type := .double, accessFlags := 8, slot := 8, constantValue := 0 }, { name := "$assertionsDisabled", type := .boolean, accessFlags := 4120, slot := 9, constantValue := 0 }]
  methods := #[k2m0, k2m1]
  instanceTypes := #[]
  staticTypes := #[.double, .double, .double, .double, .double, .long, .long, .double, .double, .boolean]
  resolved := Array.replicate 460 none
  statics := none }

def pool3 : Array CpInfo := pool [(1, .fieldref 2 3), (0, .class_ 4), (0, .nameAndType 5 6), (0, u "com/example/tag_weighted_rank/tagweightedrank/Postings"), (0, u "STRIDE"), (0, u "I"), (0, .methodref 2 8), (0, .nameAndType 9 10), (0, u "<init>"), (0, u "([II)V"), (0, .methodref 12 13), (0, .class_ 14), (0, .nameAndType 9 15), (0, u "java/lang/Object"), (0, u "()V"), (0, .fieldref 2 17), (0, .nameAndType 18 19), (0, u "data"), (0, u "[I"), (0, .fieldref 2 21), (0, .nameAndType 22 6), (0, u "length"), (9, .methodref 33 34), (0, .class_ 35), (0, .nameAndType 36 37), (0, u "java/util/Arrays"), (0, u "copyOf"), (0, u "([II)[I"), (0, .fieldref 2 39), (0, .nameAndType 40 41), (0, u "CLASSES"), (0, u "[Lcom/example/tag_weighted_rank/tagweightedrank/TagClass;"), (0, .methodref 43 44), (0, .class_ 45), (0, .nameAndType 46 47), (0, u "java/lang/System"), (0, u "arraycopy"), (0, u "(Ljava/lang/Object;ILjava/lang/Object;II)V"), (0, .fieldref 2 49), (0, .nameAndType 50 6), (0, u "MARKINGS"), (42, u "add"), (0, u "(I[I[I)V"), (2, u "classSizes"), (0, u "()[I")] 26

def k3c0 : Code := { maxStack := 3, maxLocals := 1, code := prog_17_method_1_code, exceptionTable := #[], attributes := #[] }
def k3m0 : Method := { name := "<init>", desc := "()V", sig := { parameters := [], returnType := none }, accessFlags := 1, code := some k3c0 }
def k3c1 : Code := { maxStack := 2, maxLocals := 3, code := prog_17_method_2_code, exceptionTable := #[], attributes := #[] }
def k3m1 : Method := { name := "<init>", desc := "([II)V", sig := { parameters := [(.array .int), .int], returnType := none }, accessFlags := 2, code := some k3c1 }
def k3c2 : Code := { maxStack := 5, maxLocals := 4, code := prog_17_method_4_code, exceptionTable := #[], attributes := #[] }
def k3m2 : Method := { name := "add", desc := "(I[I[I)V", sig := { parameters := [.int, (.array .int), (.array .int)], returnType := none }, accessFlags := 1, code := some k3c2 }
def k3c3 : Code := { maxStack := 4, maxLocals := 4, code := prog_17_method_7_code, exceptionTable := #[], attributes := #[] }
def k3m3 : Method := { name := "classSizes", desc := "()[I", sig := { parameters := [], returnType := some (.array .int) }, accessFlags := 1, code := some k3c3 }
/-- com/example/tag_weighted_rank/tagweightedrank/Postings -/
def k3 : Class := { plain "com/example/tag_weighted_rank/tagweightedrank/Postings" (some 0) with
  accessFlags := 49
  interfaces := #[]
  cf := some (fileOf pool3 2 #[] #[{ accessFlags := 1, nameIndex := 9, descriptorIndex := 15, attributes := #[] }, { accessFlags := 2, nameIndex := 9, descriptorIndex := 10, attributes := #[] }, { accessFlags := 1, nameIndex := 93, descriptorIndex := 94, attributes := #[] }, { accessFlags := 1, nameIndex := 97, descriptorIndex := 98, attributes := #[] }] 49 12 #[] #[{ accessFlags := 26, nameIndex := 40, descriptorIndex := 41, attributes := #[] }, { accessFlags := 26, nameIndex := 50, descriptorIndex := 6, attributes := #[] }, { accessFlags := 26, nameIndex := 5, descriptorIndex := 6, attributes := #[] }, { accessFlags := 2, nameIndex := 18, descriptorIndex := 19, attributes := #[] }, { accessFlags := 2, nameIndex := 22, descriptorIndex := 6, attributes := #[] }])
  fields := #[{ name := "CLASSES", type := (.array (.object "com/example/tag_weighted_rank/tagweightedrank/TagClass")), accessFlags := 26, slot := 0, constantValue := 0 }, { name := "MARKINGS", type := .int, accessFlags := 26, slot := 1, constantValue := 0 }, { name := "STRIDE", type := .int, accessFlags := 26, slot := 2, constantValue := 0 }, { name := "data", type := (.array .int), accessFlags := 2, slot := 0, constantValue := 0 }, { name := "length", type := .int, accessFlags := 2, slot := 1, constantValue := 0 }]
  methods := #[k3m0, k3m1, k3m2, k3m3]
  instanceTypes := #[(.array .int), .int]
  staticTypes := #[(.array (.object "com/example/tag_weighted_rank/tagweightedrank/TagClass")), .int, .int]
  resolved := Array.replicate 125 none
  statics := some 0 }

def pool4 : Array CpInfo := pool [(2, .class_ 4), (1, u "java/lang/Object"), (0, u "<init>"), (0, u "()V"), (1, .class_ 10), (1, u "java/lang/System"), (0, u "allowSecurityManager"), (0, u "I"), (16, u "cons"), (0, u "Ljava/io/Console;"), (77, .class_ 110), (1, u "java/lang/System$CallersHolder"), (43, u "initialErrStream"), (0, u "Ljava/io/PrintStream;"), (19, u "security"), (0, u "Ljava/lang/SecurityManager;"), (31, .class_ 209), (0, u "java/lang/System$1"), (7, u "props"), (0, u "Ljava/util/Properties;"), (2, u "lineSeparator"), (0, u "Ljava/lang/String;"), (96, .class_ 321), (1, u "java/lang/System$LoggerFinder"), (5, .class_ 328), (0, u "java/lang/System$Logger"), (67, u "err"), (2, u "out"), (91, u "notSupportedJnuEncoding"), (15, u "in"), (17, u "initialIn"), (0, u "Ljava/io/InputStream;"), (35, u "bootLayer"), (0, u "Ljava/lang/ModuleLayer;"), (99, .class_ 664), (0, u "java/lang/System$2"), (9, u "NEVER"), (2, u "MAYBE"), (49, u "arraycopy"), (0, u "(Ljava/lang/Object;ILjava/lang/Object;II)V"), (72, .class_ 802), (0, u "java/lang/System$Logger$Level")] 31

def k4m0 : Method := { name := "<init>", desc := "()V", sig := { parameters := [], returnType := none }, accessFlags := 2, code := none }
def k4m1 : Method := { name := "arraycopy", desc := "(Ljava/lang/Object;ILjava/lang/Object;II)V", sig := { parameters := [(.object "java/lang/Object"), .int, (.object "java/lang/Object"), .int, .int], returnType := none }, accessFlags := 265, code := none }
/-- java/lang/System -/
def k4 : Class := { plain "java/lang/System" (some 0) with
  accessFlags := 49
  interfaces := #[]
  cf := some (fileOf pool4 8 #[.nestMembers #[319, 327, 801, 108, 663, 208]] #[{ accessFlags := 2, nameIndex := 5, descriptorIndex := 6, attributes := #[] }, { accessFlags := 265, nameIndex := 727, descriptorIndex := 728, attributes := #[] }] 49 2 #[] #[{ accessFlags := 25, nameIndex := 507, descriptorIndex := 526, attributes := #[] }, { accessFlags := 25, nameIndex := 399, descriptorIndex := 155, attributes := #[] }, { accessFlags := 25, nameIndex := 396, descriptorIndex := 155, attributes := #[] }, { accessFlags := 10, nameIndex := 525, descriptorIndex := 526, attributes := #[] }, { accessFlags := 26, nameIndex := 674, descriptorIndex := 12, attributes := #[] }, { accessFlags := 26, nameIndex := 677, descriptorIndex := 12, attributes := #[] }, { accessFlags := 10, nameIndex := 11, descriptorIndex := 12, attributes := #[] }, { accessFlags := 74, nameIndex := 175, descriptorIndex := 176, attributes := #[] }, { accessFlags := 10, nameIndex := 491, descriptorIndex := 222, attributes := #[] }, { accessFlags := 74, nameIndex := 29, descriptorIndex := 30, attributes := #[] }, { accessFlags := 74, nameIndex := 154, descriptorIndex := 155, attributes := #[] }, { accessFlags := 10, nameIndex := 217, descriptorIndex := 218, attributes := #[] }, { accessFlags := 10, nameIndex := 221, descriptorIndex := 222, attributes := #[] }, { accessFlags := 8, nameIndex := 562, descriptorIndex := 563, attributes := #[] }])
  fields := #[{ name := "in", type := (.object "java/io/InputStream"), accessFlags := 25, slot := 0, constantValue := 0 }, { name := "out", type := (.object "java/io/PrintStream"), accessFlags := 25, slot := 1, constantValue := 0 }, { name := "err", type := (.object "java/io/PrintStream"), accessFlags := 25, slot := 2, constantValue := 0 }, { name := "initialIn", type := (.object "java/io/InputStream"), accessFlags := 10, slot := 3, constantValue := 0 }, { name := "NEVER", type := .int, accessFlags := 26, slot := 4, constantValue := 0 }, { name := "MAYBE", type := .int, accessFlags := 26, slot := 5, constantValue := 0 }, { name := "allowSecurityManager", type := .int, accessFlags := 10, slot := 6, constantValue := 0 }, { name := "security", type := (.object "java/lang/SecurityManager"), accessFlags := 74, slot := 7, constantValue := 0 }, { name := "notSupportedJnuEncoding", type := (.object "java/lang/String"), accessFlags := 10, slot := 8, constantValue := 0 }, { name := "cons", type := (.object "java/io/Console"), accessFlags := 74, slot := 9, constantValue := 0 }, { name := "initialErrStream", type := (.object "java/io/PrintStream"), accessFlags := 74, slot := 10, constantValue := 0 }, { name := "props", type := (.object "java/util/Properties"), accessFlags := 10, slot := 11, constantValue := 0 }, { name := "lineSeparator", type := (.object "java/lang/String"), accessFlags := 10, slot := 12, constantValue := 0 }, { name := "bootLayer", type := (.object "java/lang/ModuleLayer"), accessFlags := 8, slot := 13, constantValue := 0 }]
  methods := #[k4m0, k4m1]
  instanceTypes := #[]
  staticTypes := #[(.object "java/io/InputStream"), (.object "java/io/PrintStream"), (.object "java/io/PrintStream"), (.object "java/io/InputStream"), .int, .int, .int, (.object "java/lang/SecurityManager"), (.object "java/lang/String"), (.object "java/io/Console"), (.object "java/io/PrintStream"), (.object "java/util/Properties"), (.object "java/lang/String"), (.object "java/lang/ModuleLayer")]
  resolved := Array.replicate 834 none
  statics := none }

def pool5 : Array CpInfo := pool [(2, .class_ 4), (1, u "java/lang/Object"), (0, u "<init>"), (0, u "()V"), (7, .class_ 16), (1, u "java/util/Arrays"), (57, .class_ 76), (1, u "java/util/Arrays$NaturalOrder"), (36, .class_ 115), (1, u "java/util/Arrays$LegacyMergeSort"), (1, u "Z"), (32, .methodref 151 152), (0, .class_ 153), (0, .nameAndType 154 155), (0, u "java/lang/System"), (0, u "arraycopy"), (0, u "(Ljava/lang/Object;ILjava/lang/Object;II)V"), (146, u "copyOf"), (1, .methodref 305 306), (0, .class_ 307), (0, .nameAndType 308 309), (0, u "java/lang/Math"), (0, u "min"), (0, u "(II)I"), (65, .class_ 376), (0, u "java/util/Arrays$ArrayList"), (68, u "$assertionsDisabled"), (269, u "MIN_ARRAY_SORT_GRAN"), (0, u "I"), (2, u "INSERTIONSORT_THRESHOLD"), (151, u "([II)[I"), (103, .class_ 976), (0, u "java/util/Arrays$ArrayItr")] 52

def k5m0 : Method := { name := "<init>", desc := "()V", sig := { parameters := [], returnType := none }, accessFlags := 2, code := none }
def k5c1 : Code := { maxStack := 6, maxLocals := 3, code := jdk_65_method_123_code, exceptionTable := #[], attributes := #[] }
def k5m1 : Method := { name := "copyOf", desc := "([II)[I", sig := { parameters := [(.array .int), .int], returnType := some (.array .int) }, accessFlags := 9, code := some k5c1 }
/-- java/util/Arrays -/
def k5 : Class := { plain "java/util/Arrays" (some 0) with
  accessFlags := 49
  interfaces := #[]
  cf := some (fileOf pool5 14 #[.nestMembers #[975, 375, 113, 74]] #[{ accessFlags := 2, nameIndex := 5, descriptorIndex := 6, attributes := #[] }, { accessFlags := 9, nameIndex := 302, descriptorIndex := 871, attributes := #[] }] 49 2 #[] #[{ accessFlags := 26, nameIndex := 715, descriptorIndex := 716, attributes := #[] }, { accessFlags := 26, nameIndex := 719, descriptorIndex := 716, attributes := #[] }, { accessFlags := 4120, nameIndex := 445, descriptorIndex := 117, attributes := #[] }])
  fields := #[{ name := "MIN_ARRAY_SORT_GRAN", type := .int, accessFlags := 26, slot := 0, constantValue := 0 }, { name := "INSERTIONSORT_THRESHOLD", type := .int, accessFlags := 26, slot := 1, constantValue := 0 }, { name := "$assertionsDisabled", type := .boolean, accessFlags := 4120, slot := 2, constantValue := 0 }]
  methods := #[k5m0, k5m1]
  instanceTypes := #[]
  staticTypes := #[.int, .int, .boolean]
  resolved := Array.replicate 1029 none
  statics := none }

def pool6 : Array CpInfo := pool [(1, .class_ 2), (0, u "java/lang/constant/Constable"), (0, .class_ 4), (0, u "java/lang/Object")] 6

/-- java/lang/constant/Constable -/
def k6 : Class := { plain "java/lang/constant/Constable" (some 0) with
  accessFlags := 1537
  interfaces := #[]
  cf := some (fileOf pool6 1 #[] #[] 1537 3 #[] #[])
  fields := #[]
  methods := #[]
  instanceTypes := #[]
  staticTypes := #[]
  resolved := Array.replicate 11 none
  statics := none }

def pool7 : Array CpInfo := pool [(1, .class_ 2), (0, u "java/lang/Comparable"), (0, .class_ 4), (0, u "java/lang/Object")] 7

/-- java/lang/Comparable -/
def k7 : Class := { plain "java/lang/Comparable" (some 0) with
  accessFlags := 1537
  interfaces := #[]
  cf := some (fileOf pool7 1 #[] #[] 1537 3 #[] #[])
  fields := #[]
  methods := #[]
  instanceTypes := #[]
  staticTypes := #[]
  resolved := Array.replicate 12 none
  statics := none }

def pool8 : Array CpInfo := pool [(1, .class_ 2), (0, u "java/io/Serializable"), (0, .class_ 4), (0, u "java/lang/Object")] 2

/-- java/io/Serializable -/
def k8 : Class := { plain "java/io/Serializable" (some 0) with
  accessFlags := 1537
  interfaces := #[]
  cf := some (fileOf pool8 1 #[] #[] 1537 3 #[] #[])
  fields := #[]
  methods := #[]
  instanceTypes := #[]
  staticTypes := #[]
  resolved := Array.replicate 7 none
  statics := none }

def pool9 : Array CpInfo := pool [(2, .class_ 4), (1, u "java/lang/Enum"), (0, u "name"), (0, u "Ljava/lang/String;"), (2, u "ordinal"), (0, u "I"), (1, .class_ 14), (1, u "java/lang/Object"), (4, u "hash"), (86, .class_ 108), (1, u "java/lang/Enum$EnumDesc"), (2, .class_ 112), (0, u "java/lang/constant/Constable"), (0, .class_ 114), (0, u "java/lang/Comparable"), (0, .class_ 116), (0, u "java/io/Serializable")] 87

/-- java/lang/Enum -/
def k9 : Class := { plain "java/lang/Enum" (some 0) with
  accessFlags := 1057
  interfaces := #[6, 7, 8]
  cf := some (fileOf pool9 2 #[.nestMembers #[106]] #[] 1057 12 #[111, 113, 115] #[{ accessFlags := 18, nameIndex := 5, descriptorIndex := 6, attributes := #[] }, { accessFlags := 18, nameIndex := 9, descriptorIndex := 10, attributes := #[] }, { accessFlags := 2, nameIndex := 19, descriptorIndex := 10, attributes := #[] }])
  fields := #[{ name := "name", type := (.object "java/lang/String"), accessFlags := 18, slot := 0, constantValue := 0 }, { name := "ordinal", type := .int, accessFlags := 18, slot := 1, constantValue := 0 }, { name := "hash", type := .int, accessFlags := 2, slot := 2, constantValue := 0 }]
  methods := #[]
  instanceTypes := #[(.object "java/lang/String"), .int, .int]
  staticTypes := #[]
  resolved := Array.replicate 204 none
  statics := none }

def pool10 : Array CpInfo := pool [(1, .class_ 2), (0, u "com/example/tag_weighted_rank/tagweightedrank/TagClass"), (2, u "PLAIN"), (0, u "Lcom/example/tag_weighted_rank/tagweightedrank/TagClass;"), (2, u "STRONG"), (2, u "H3_H6"), (2, u "H1_H2"), (2, u "ANCHOR"), (2, u "TITLE"), (2, u "$VALUES"), (0, u "[Lcom/example/tag_weighted_rank/tagweightedrank/TagClass;"), (6, .class_ 34), (1, u "java/lang/Enum"), (8, u "label"), (0, u "Ljava/lang/String;")] 39

/-- com/example/tag_weighted_rank/tagweightedrank/TagClass -/
def k10 : Class := { plain "com/example/tag_weighted_rank/tagweightedrank/TagClass" (some 9) with
  accessFlags := 16433
  interfaces := #[]
  cf := some (fileOf pool10 1 #[] #[] 16433 32 #[] #[{ accessFlags := 16409, nameIndex := 5, descriptorIndex := 6, attributes := #[] }, { accessFlags := 16409, nameIndex := 9, descriptorIndex := 6, attributes := #[] }, { accessFlags := 16409, nameIndex := 12, descriptorIndex := 6, attributes := #[] }, { accessFlags := 16409, nameIndex := 15, descriptorIndex := 6, attributes := #[] }, { accessFlags := 16409, nameIndex := 18, descriptorIndex := 6, attributes := #[] }, { accessFlags := 16409, nameIndex := 21, descriptorIndex := 6, attributes := #[] }, { accessFlags := 18, nameIndex := 43, descriptorIndex := 44, attributes := #[] }, { accessFlags := 4122, nameIndex := 24, descriptorIndex := 25, attributes := #[] }])
  fields := #[{ name := "PLAIN", type := (.object "com/example/tag_weighted_rank/tagweightedrank/TagClass"), accessFlags := 16409, slot := 0, constantValue := 0 }, { name := "STRONG", type := (.object "com/example/tag_weighted_rank/tagweightedrank/TagClass"), accessFlags := 16409, slot := 1, constantValue := 0 }, { name := "H3_H6", type := (.object "com/example/tag_weighted_rank/tagweightedrank/TagClass"), accessFlags := 16409, slot := 2, constantValue := 0 }, { name := "H1_H2", type := (.object "com/example/tag_weighted_rank/tagweightedrank/TagClass"), accessFlags := 16409, slot := 3, constantValue := 0 }, { name := "ANCHOR", type := (.object "com/example/tag_weighted_rank/tagweightedrank/TagClass"), accessFlags := 16409, slot := 4, constantValue := 0 }, { name := "TITLE", type := (.object "com/example/tag_weighted_rank/tagweightedrank/TagClass"), accessFlags := 16409, slot := 5, constantValue := 0 }, { name := "label", type := (.object "java/lang/String"), accessFlags := 18, slot := 3, constantValue := 0 }, { name := "$VALUES", type := (.array (.object "com/example/tag_weighted_rank/tagweightedrank/TagClass")), accessFlags := 4122, slot := 6, constantValue := 0 }]
  methods := #[]
  instanceTypes := #[(.object "java/lang/String"), .int, .int, (.object "java/lang/String")]
  staticTypes := #[(.object "com/example/tag_weighted_rank/tagweightedrank/TagClass"), (.object "com/example/tag_weighted_rank/tagweightedrank/TagClass"), (.object "com/example/tag_weighted_rank/tagweightedrank/TagClass"), (.object "com/example/tag_weighted_rank/tagweightedrank/TagClass"), (.object "com/example/tag_weighted_rank/tagweightedrank/TagClass"), (.object "com/example/tag_weighted_rank/tagweightedrank/TagClass"), (.array (.object "com/example/tag_weighted_rank/tagweightedrank/TagClass"))]
  resolved := Array.replicate 84 none
  statics := none }

def pool11 : Array CpInfo := pool [(1, u "java/lang/Cloneable"), (0, .class_ 1), (0, u "java/lang/Object"), (0, .class_ 3)] 3

/-- java/lang/Cloneable -/
def k11 : Class := { plain "java/lang/Cloneable" (some 0) with
  accessFlags := 1537
  interfaces := #[]
  cf := some (fileOf pool11 2 #[] #[] 1537 4 #[] #[])
  fields := #[]
  methods := #[]
  instanceTypes := #[]
  staticTypes := #[]
  resolved := Array.replicate 8 none
  statics := none }

/-- the primitive byte -/
def k12 : Class := { plain "byte" none with kind := .primitive 'B', accessFlags := 0x411 }
/-- [B -/
def k13 : Class := { plain "[B" (some 0) with kind := .array 12 .byte, interfaces := #[11, 8], accessFlags := 1041 }

/-- the primitive int -/
def k14 : Class := { plain "int" none with kind := .primitive 'I', accessFlags := 0x411 }
/-- [I -/
def k15 : Class := { plain "[I" (some 0) with kind := .array 14 .int, interfaces := #[11, 8], accessFlags := 1041 }

/-- [Lcom/example/tag_weighted_rank/tagweightedrank/TagClass; -/
def k16 : Class := { plain "[Lcom/example/tag_weighted_rank/tagweightedrank/TagClass;" (some 0) with kind := .array 10 (.object "com/example/tag_weighted_rank/tagweightedrank/TagClass"), interfaces := #[11, 8], accessFlags := 1041 }

def heap : Heap := #[{ cls := 3, slots := #[.ref 1, .int 2, .int 9], vm := .statics 3 },
  { cls := 16, slots := #[.null, .null, .null, .null, .null, .null], vm := .none }]
def classes : Array Class := #[k0, k1, k2, k3, k4, k5, k6, k7, k8, k9, k10, k11, k12, k13, k14, k15, k16]
def interned : List (Array UInt16 × Addr) := []
def slotsUsed : Nat := 9
def theMethod : MethodId := ⟨1, 1⟩
def args0 : Array Value := #[.int 3, .int 1, .int 2, .int 0, .int 1, .int 2]
def aboutOver (below : List Frame) : State where
  vm := { classes := classes, interned := interned.toArray }
  heap := heap
  slotsUsed := slotsUsed
  threads := #[{ frames := .invoking theMethod args0 :: below }]
def below0 : List Frame := [.native { method := ⟨0, 0⟩, args := #[] }]
def about1 : State := aboutOver below0
def p0 : Program := .bare "" "" ""
def e0 : Env := launch0.env 0 0 0
theorem w_frames : about1.frames = Frame.invoking theMethod args0 :: below0 := rfl
set_option maxRecDepth 65536 in
theorem w_args : argsFit about1.vm theMethod args0 = true := by decide +kernel
set_option maxRecDepth 65536 in
theorem w_heap : heapFits about1 = true := by decide +kernel
set_option maxRecDepth 65536 in
theorem w_runnable : about1.curStatus? = some .runnable := by decide +kernel
set_option maxRecDepth 65536 in
theorem w_alone : about1.alone = true := by decide +kernel
set_option maxRecDepth 65536 in
theorem w_named : about1.methodNamed? x = some theMethod := by decide +kernel
set_option maxRecDepth 65536 in
theorem w_hears : about1.hears theMethod below0 = true := by decide +kernel
set_option maxRecDepth 65536 in
theorem w_ripe : about1.ripe theMethod args0 below0 = true := by decide +kernel
theorem w_running : about1.status = .running := rfl
set_option maxRecDepth 65536 in
theorem w_room : about1.hasRoom e0.platform room_1 = true :=
  launch0.hasRoom_least _ room_1 (by decide +kernel) (by decide +kernel) (by decide +kernel) (by decide +kernel) (by decide +kernel) (by decide +kernel)
theorem allAtoms_all (ts : List Jvm.Cond) (a : Array Jvm.Value) (st : Jvm.State) : (allAtoms ts).before a st = ts.all (fun c => c.before a st) := by
  induction ts with
  | nil => rfl
  | cons c t ih =>
    show (Jvm.Cond.and c (allAtoms t)).before a st = _
    rw [Jvm.Cond.before_and, ih, List.all_cons]
def words1 : List Jvm.Cond := Jvm.Cond.code x code maxLocals ret :: tables_1
/-- a 'code' word, met by the world's own term for the bytes: nothing is compared byte by byte -/
theorem code_word {y : MethodName} {bytes : ByteArray} {mx : Nat} {rt : Option FieldType} {a : Array Value} {s : State} {m : MethodId} {meth : Method} {c : Code} (h1 : s.methodNamed? y = some m) (h2 : s.vm.method? m = some meth) (h3 : meth.code = some c) (h4 : c.code = bytes)
    (h5 : (c.maxLocals == mx && c.exceptionTable.isEmpty && decide (c.maxStack ≤ mostOperands) && decide (meth.sig.returnType = rt) && !meth.locks && decide (parseMethodDescriptor y.desc = some meth.sig)) = true) : (Jvm.Cond.code y bytes mx rt).before a s = true := by
  simp only [Bool.and_eq_true, beq_iff_eq, Bool.not_eq_true', decide_eq_true_eq] at h5
  obtain ⟨⟨⟨⟨⟨g1, g2⟩, g3⟩, g4⟩, g5⟩, g6⟩ := h5
  simp [Cond.before, Cond.holds, Cond.value, h1, h2, h3, h4, g1, g2, g3, g4, g5, g6]
def isCode : Jvm.Cond → Bool
  | .code _ _ _ _ => true
  | _ => false
theorem all_split {L : List Jvm.Cond} {P : Jvm.Cond → Bool} (h1 : L.all (fun c => isCode c || P c) = true) (h2 : ∀ c ∈ L.filter isCode, P c = true) : L.all P = true := by
  refine List.all_eq_true.mpr fun c hc => ?_
  have h := List.all_eq_true.mp h1 c hc
  rcases Bool.eq_false_or_eq_true (isCode c) with hi | hi
  · exact h2 c (List.mem_filter.mpr ⟨hc, hi⟩)
  · simpa [hi] using h
set_option maxRecDepth 65536 in
theorem w_c0 : (Jvm.Cond.code x code maxLocals ret).before args0 about1 = true := code_word (m := ⟨1, 1⟩) (meth := k1m1) (c := k1c1) (by decide +kernel) rfl rfl rfl (by decide +kernel)
set_option maxRecDepth 65536 in
theorem w_c1 : (Jvm.Cond.code ({ cls := "com/example/tag_weighted_rank/tagweightedrank/PostingsClassSizesPinLaw", name := "counts", desc := "(I)[I" } : Jvm.MethodName) method_3_code (1 : Nat) (Option.some (Jvm.ClassFile.FieldType.array Jvm.ClassFile.FieldType.int))).before args0 about1 = true := code_word (m := ⟨1, 2⟩) (meth := k1m2) (c := k1c2) (by decide +kernel) rfl rfl rfl (by decide +kernel)
set_option maxRecDepth 65536 in
theorem w_c2 : (Jvm.Cond.code ({ cls := "com/example/tag_weighted_rank/tagweightedrank/PostingsClassSizesPinLaw", name := "marks", desc := "(II[I)[I" } : Jvm.MethodName) method_4_code (3 : Nat) (Option.some (Jvm.ClassFile.FieldType.array Jvm.ClassFile.FieldType.int))).before args0 about1 = true := code_word (m := ⟨1, 3⟩) (meth := k1m3) (c := k1c3) (by decide +kernel) rfl rfl rfl (by decide +kernel)
set_option maxRecDepth 65536 in
theorem w_c3 : (Jvm.Cond.code ({ cls := "java/lang/Math", name := "min", desc := "(II)I" } : Jvm.MethodName) jdk_29_method_69_code (2 : Nat) (Option.some Jvm.ClassFile.FieldType.int)).before args0 about1 = true := code_word (m := ⟨2, 1⟩) (meth := k2m1) (c := k2c1) (by decide +kernel) rfl rfl rfl (by decide +kernel)
set_option maxRecDepth 65536 in
theorem w_c4 : (Jvm.Cond.code ({ cls := "com/example/tag_weighted_rank/tagweightedrank/Postings", name := "<init>", desc := "()V" } : Jvm.MethodName) prog_17_method_1_code (1 : Nat) (Option.none : Option Jvm.ClassFile.FieldType)).before args0 about1 = true := code_word (m := ⟨3, 0⟩) (meth := k3m0) (c := k3c0) (by decide +kernel) rfl rfl rfl (by decide +kernel)
set_option maxRecDepth 65536 in
theorem w_c5 : (Jvm.Cond.code ({ cls := "com/example/tag_weighted_rank/tagweightedrank/Postings", name := "<init>", desc := "([II)V" } : Jvm.MethodName) prog_17_method_2_code (3 : Nat) (Option.none : Option Jvm.ClassFile.FieldType)).before args0 about1 = true := code_word (m := ⟨3, 1⟩) (meth := k3m1) (c := k3c1) (by decide +kernel) rfl rfl rfl (by decide +kernel)
set_option maxRecDepth 65536 in
theorem w_c6 : (Jvm.Cond.code ({ cls := "java/lang/Object", name := "<init>", desc := "()V" } : Jvm.MethodName) object_method_1_code (1 : Nat) (Option.none : Option Jvm.ClassFile.FieldType)).before args0 about1 = true := code_word (m := ⟨0, 0⟩) (meth := k0m0) (c := k0c0) (by decide +kernel) rfl rfl rfl (by decide +kernel)
set_option maxRecDepth 65536 in
theorem w_c7 : (Jvm.Cond.code ({ cls := "com/example/tag_weighted_rank/tagweightedrank/Postings", name := "classSizes", desc := "()[I" } : Jvm.MethodName) prog_17_method_7_code (4 : Nat) (Option.some (Jvm.ClassFile.FieldType.array Jvm.ClassFile.FieldType.int))).before args0 about1 = true := code_word (m := ⟨3, 3⟩) (meth := k3m3) (c := k3c3) (by decide +kernel) rfl rfl rfl (by decide +kernel)
set_option maxRecDepth 65536 in
theorem w_c8 : (Jvm.Cond.code ({ cls := "com/example/tag_weighted_rank/tagweightedrank/PostingsClassSizesPinLaw", name := "expected", desc := "([I[I[III)I" } : Jvm.MethodName) method_6_code (5 : Nat) (Option.some Jvm.ClassFile.FieldType.int)).before args0 about1 = true := code_word (m := ⟨1, 5⟩) (meth := k1m5) (c := k1c5) (by decide +kernel) rfl rfl rfl (by decide +kernel)
set_option maxRecDepth 65536 in
theorem w_c9 : (Jvm.Cond.code ({ cls := "com/example/tag_weighted_rank/tagweightedrank/PostingsClassSizesPinLaw", name := "one", desc := "([IIZ)I" } : Jvm.MethodName) method_5_code (3 : Nat) (Option.some Jvm.ClassFile.FieldType.int)).before args0 about1 = true := code_word (m := ⟨1, 4⟩) (meth := k1m4) (c := k1c4) (by decide +kernel) rfl rfl rfl (by decide +kernel)
set_option maxRecDepth 65536 in
theorem w_c10 : (Jvm.Cond.code ({ cls := "com/example/tag_weighted_rank/tagweightedrank/Postings", name := "add", desc := "(I[I[I)V" } : Jvm.MethodName) prog_17_method_4_code (4 : Nat) (Option.none : Option Jvm.ClassFile.FieldType)).before args0 about1 = true := code_word (m := ⟨3, 2⟩) (meth := k3m2) (c := k3c2) (by decide +kernel) rfl rfl rfl (by decide +kernel)
set_option maxRecDepth 65536 in
theorem w_c11 : (Jvm.Cond.code ({ cls := "java/util/Arrays", name := "copyOf", desc := "([II)[I" } : Jvm.MethodName) jdk_65_method_123_code (3 : Nat) (Option.some (Jvm.ClassFile.FieldType.array Jvm.ClassFile.FieldType.int))).before args0 about1 = true := code_word (m := ⟨5, 1⟩) (meth := k5m1) (c := k5c1) (by decide +kernel) rfl rfl rfl (by decide +kernel)
def codes1 : List Jvm.Cond := [Jvm.Cond.code x code maxLocals ret, Jvm.Cond.code ({ cls := "com/example/tag_weighted_rank/tagweightedrank/PostingsClassSizesPinLaw", name := "counts", desc := "(I)[I" } : Jvm.MethodName) method_3_code (1 : Nat) (Option.some (Jvm.ClassFile.FieldType.array Jvm.ClassFile.FieldType.int)), Jvm.Cond.code ({ cls := "com/example/tag_weighted_rank/tagweightedrank/PostingsClassSizesPinLaw", name := "marks", desc := "(II[I)[I" } : Jvm.MethodName) method_4_code (3 : Nat) (Option.some (Jvm.ClassFile.FieldType.array Jvm.ClassFile.FieldType.int)), Jvm.Cond.code ({ cls := "java/lang/Math", name := "min", desc := "(II)I" } : Jvm.MethodName) jdk_29_method_69_code (2 : Nat) (Option.some Jvm.ClassFile.FieldType.int), Jvm.Cond.code ({ cls := "com/example/tag_weighted_rank/tagweightedrank/Postings", name := "<init>", desc := "()V" } : Jvm.MethodName) prog_17_method_1_code (1 : Nat) (Option.none : Option Jvm.ClassFile.FieldType), Jvm.Cond.code ({ cls := "com/example/tag_weighted_rank/tagweightedrank/Postings", name := "<init>", desc := "([II)V" } : Jvm.MethodName) prog_17_method_2_code (3 : Nat) (Option.none : Option Jvm.ClassFile.FieldType), Jvm.Cond.code ({ cls := "java/lang/Object", name := "<init>", desc := "()V" } : Jvm.MethodName) object_method_1_code (1 : Nat) (Option.none : Option Jvm.ClassFile.FieldType), Jvm.Cond.code ({ cls := "com/example/tag_weighted_rank/tagweightedrank/Postings", name := "classSizes", desc := "()[I" } : Jvm.MethodName) prog_17_method_7_code (4 : Nat) (Option.some (Jvm.ClassFile.FieldType.array Jvm.ClassFile.FieldType.int)), Jvm.Cond.code ({ cls := "com/example/tag_weighted_rank/tagweightedrank/PostingsClassSizesPinLaw", name := "expected", desc := "([I[I[III)I" } : Jvm.MethodName) method_6_code (5 : Nat) (Option.some Jvm.ClassFile.FieldType.int), Jvm.Cond.code ({ cls := "com/example/tag_weighted_rank/tagweightedrank/PostingsClassSizesPinLaw", name := "one", desc := "([IIZ)I" } : Jvm.MethodName) method_5_code (3 : Nat) (Option.some Jvm.ClassFile.FieldType.int), Jvm.Cond.code ({ cls := "com/example/tag_weighted_rank/tagweightedrank/Postings", name := "add", desc := "(I[I[I)V" } : Jvm.MethodName) prog_17_method_4_code (4 : Nat) (Option.none : Option Jvm.ClassFile.FieldType), Jvm.Cond.code ({ cls := "java/util/Arrays", name := "copyOf", desc := "([II)[I" } : Jvm.MethodName) jdk_65_method_123_code (3 : Nat) (Option.some (Jvm.ClassFile.FieldType.array Jvm.ClassFile.FieldType.int))]
set_option maxRecDepth 65536 in
theorem codes_eq : words1.filter isCode = codes1 := rfl
theorem w_codes : ∀ c ∈ words1.filter isCode, c.before args0 about1 = true := by
  rw [codes_eq]
  intro c hc
  simp only [codes1, List.mem_cons, List.not_mem_nil, or_false] at hc
  rcases hc with rfl | rfl | rfl | rfl | rfl | rfl | rfl | rfl | rfl | rfl | rfl | rfl
  · exact w_c0
  · exact w_c1
  · exact w_c2
  · exact w_c3
  · exact w_c4
  · exact w_c5
  · exact w_c6
  · exact w_c7
  · exact w_c8
  · exact w_c9
  · exact w_c10
  · exact w_c11
set_option maxRecDepth 65536 in
theorem w_t1 : (words1.take 24).all (fun c => isCode c || c.before args0 about1) = true := by decide +kernel
set_option maxRecDepth 65536 in
theorem w_t2 : ((words1.drop 24).take 24).all (fun c => isCode c || c.before args0 about1) = true := by decide +kernel
set_option maxRecDepth 65536 in
theorem w_t3 : ((words1.drop 24).drop 24).all (fun c => isCode c || c.before args0 about1) = true := by decide +kernel
theorem w_tables : (allAtoms (Jvm.Cond.code x code maxLocals ret :: tables_1)).before args0 about1 = true := by
  rw [allAtoms_all]
  show words1.all (fun c => c.before args0 about1) = true
  refine all_split ?_ w_codes
  rw [← List.take_append_drop 24 words1, List.all_append, w_t1, ← List.take_append_drop 24 (words1.drop 24), List.all_append, w_t2, w_t3]
  rfl
set_option maxRecDepth 65536 in
theorem w_case : (Jvm.Cond.and given_1 narrow_1).before args0 about1 = true := by decide +kernel
theorem w_applies : (headSpec (Jvm.Cond.code x code maxLocals ret :: tables_1) room_1).applies x e0.platform about1 = true :=
  (Spec.applies_iff w_frames).mpr ⟨w_running, w_runnable, w_alone, w_named, w_hears, w_ripe, w_room, w_tables⟩
theorem atStart : AtStart classFile x code maxLocals ret World_1 tables_1 room_1 Calls_1 rest_1 Pre_1 launch0 p0 e0 about1 theMethod args0 below0 :=
  ⟨lists_1, trivial, launch0.admits_env _ _ _, launch0.least_env, fairChoices_fair.cas, fairChoices_fair.clock, w_frames, w_args, w_heap, w_applies, trivial, trivial, w_case⟩
end start1
theorem witness_1 : WitnessClaimed_1 := ⟨start1.p0, start1.e0, start1.about1, start1.theMethod, start1.args0, start1.below0, start1.atStart⟩
end Jvm.Pilot.@@N@@
