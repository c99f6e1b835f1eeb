import JvmDerived
import JvmDerived.Pilot.@@N@@Statement
import JvmDerived.Pilot.@@N@@Code
set_option linter.unusedVariables false
set_option linter.unusedSimpArgs false
namespace Jvm.Pilot.@@N@@
open Jvm Jvm.ClassFile Sem Op Lib Jvm.Free Jvm.Stand Jvm.LawKit Jvm.RoadKit Bundle Jvm.Pilot.@@N@@.Jvm.D
theorem own_t {a0 : Array Value} {Z : State} (hw : ∀ d ∈ tables_1, d.before a0 Z = true) (i : Nat) {d : Jvm.Cond} (h : tables_1[i]? = some d) : d.before a0 Z = true := hw d (List.mem_of_getElem? h)
/-! own_Go: from the state S the run comes to an end of which R holds; a step is taken ahead of it (own_st), so that a walk can fork wherever it likes. -/
def own_Go (tb : Tables) (e : Env) (below : List Frame) (S : State) (R : Outcome → State → Prop) : Prop := ∃ t o, Steps tb e below S t ∧ t.status = .running ∧ Ended t below o ∧ R o t
theorem own_st {tb : Tables} {e : Env} {below : List Frame} {S S' : State} {R : Outcome → State → Prop} (h : ∀ t, Steps tb e below S' t → Steps tb e below S t) (k : own_Go tb e below S' R) : own_Go tb e below S R := by
  obtain ⟨t, o, h1, h2⟩ := k
  exact ⟨t, o, h t h1, h2⟩
abbrev own_R (s : State) (Q : Option Value → Heap → List Loc → Prop) (k n : Nat) (o : Outcome) (t : State) : Prop := ∃ v L, o = .returned v ∧ Q v t.heap L ∧ FrameEnd s o t L k n
abbrev own_Met (l : Launch) (y : MethodName) (bytes : ByteArray) (maxL : Nat) (rt : Option FieldType) (ws : List Jvm.Cond) (rm : Room) (as' : Array Value) (Z : State) (h0 : Heap) (Q : Option Value → Heap → List Loc → Prop) : Prop :=
  MetFree l y (head1 (Jvm.Cond.code y bytes maxL rt :: ws) rm) (fun a U => a = as' ∧ Z.Warmed39 U.vm ∧ U.heap = h0) (fun _ _ _ _ _ => True) (fun _ U o U' => ∃ v L, o = .returned v ∧ Q v U'.heap L ∧ FrameEnd U o U' L rm.cells rm.slots)
theorem own_body {l : Launch} {y : MethodName} {bytes : ByteArray} {maxL : Nat} {rt : Option FieldType} {ws : List Jvm.Cond} {rm : Room} {as' : Array Value} {Z : State} {h0 : Heap} {Q : Option Value → Heap → List Loc → Prop} (hp : plainFor y = true)
    (hb : ∀ (p : Program) (e : Env) (s : State) (m : MethodId) (below : List Frame) (meth : Method) (c : Code) (T : State), Stand p l e rm s m as' below meth c T [] 0 0 → p.tables.exec = Jvm.exec → c.code = bytes → c.maxLocals = maxL → s.vm.findClass y.cls = some m.cls → meth.name = y.name → meth.sig.returnType = rt → meth.locks = false → Z.Warmed39 s.vm → T.heap = h0 →
      own_Go p.tables e below (T.setTop (entryFrame m as' maxL)) (own_R s Q rm.cells rm.slots)) : own_Met l y bytes maxL rt ws rm as' Z h0 Q := by
  refine MetFree.of_bodySF hp hisR ?_
  intro p e s m args below meth c s₁ Bd hml0 hP hK
  obtain ⟨rfl, hZ, hh⟩ := hP
  exact hb p e s m below meth c s₁ (Stand.of_body Bd) Bd.exec Bd.bytes hml0 (findClass_of_methodNamed Bd.named) (name_of_methodNamed Bd.named Bd.method).1 Bd.returns Bd.notSynchronized hZ (by rw [← hh, Bd.state]; rfl)
section Own
variable {p : Program} {l : Launch} {e : Env} {R : Room} {s : State} {m : MethodId} {args : Array Value} {below : List Frame} {meth : Method} {c : Code} {T : State} {locs : List Loc} {cells slots : Nat} {Z : State} {a0 : Array Value} {h : Heap} {Q : Option Value → Heap → List Loc → Prop} {RR : Outcome → State → Prop}
theorem own_eqI {first : State} {o : Option Outcome} {idx : List Nat} {a : Term} {k : Int32} (q : (Jvm.Cond.eq a (.int k)).value args first o s idx = some true) : a.eval args first o idx s = some (.int k) := by
  simp only [Cond.value, Term.eval] at q
  cases ht : a.eval args first o idx s with
  | none => simp [ht] at q
  | some x => cases x <;> simp [ht] at q ⊢ <;> exact q
theorem own_Z0 {n0 : Nat} (O : Old Z n0 h) : n0 ≤ h.size := O.1 ▸ O.2.1
theorem own_leave (X : Stand p l e R s m args below meth c T locs cells slots) (hlk : meth.locks = false) {v : Option Value} (hv : meth.sig.returnType = none → v = none) {S : State} {k n : Nat} (hk : cells ≤ k) (hn : slots ≤ n) (hq : Q v T.heap locs)
    (st : ∀ fs : List Frame, (∀ (f : JFrame) (acts : List Action), f.method = m → f.locked = none → f.entered = [] → (doReturn e (T.setTop f) acts v).1 = T.setFrames fs) → Steps p.tables e below S (T.setFrames fs)) : own_Go p.tables e below S (own_R s Q k n) := by
  obtain ⟨fs, hr, hrun, hended, hW, hsame⟩ := X.leave (v := v) hv hlk
  exact ⟨_, _, st fs hr, hrun, hended, v, locs, rfl, hq, ⟨_, rfl⟩, hW, hsame.mono hk hn⟩
theorem own_retI (X : Stand p l e R s m args below meth c T locs cells slots) (hx : p.tables.exec = Jvm.exec) {pc : Nat} {Ls : Array Slot} {z : Int32} {rest : List Value} (hret : meth.sig.returnType = some .int) (hd : decode c.code pc = .ok (.ireturn, 1)) (hlk : meth.locks = false) {k n : Nat} (hk : cells ≤ k) (hn : slots ≤ n) (hq : Q (some (.int z)) T.heap locs) :
    own_Go p.tables e below (T.setTop (mkF m pc Ls (.int z :: rest))) (own_R s Q k n) := by
  refine own_leave X hlk (fun q => by rw [hret] at q; cases q) hk hn hq fun fs hl => ?_
  have hm' : T.vm.method? m = some meth := X.method'
  have hn : narrow .int (.int z) = .int z := rfl
  show Steps p.tables e below (T.setTop { method := m, pc := pc, locals := Ls, stack := _ :: rest, locked := none }) _
  jvm_step X.here [X.here.top, hx, hd, hm', hret, hn]
  first | (intro acts; rw [hl _ acts rfl rfl rfl]) | rw [hl _ _ rfl rfl rfl]
  exact Steps.refl _
theorem own_retZ (X : Stand p l e R s m args below meth c T locs cells slots) (hx : p.tables.exec = Jvm.exec) {pc : Nat} {Ls : Array Slot} {z : Int32} {t : FieldType} {rest : List Value} (hret : meth.sig.returnType = some t) (ht : t = .boolean ∨ t = .byte ∨ t = .char ∨ t = .short) (hd : decode c.code pc = .ok (.ireturn, 1)) (hlk : meth.locks = false) {k n : Nat} (hk : cells ≤ k) (hn : slots ≤ n) (hq : Q (some (.int (nar t z))) T.heap locs) :
    own_Go p.tables e below (T.setTop (mkF m pc Ls (.int z :: rest))) (own_R s Q k n) :=
  own_leave X hlk (fun q => by rw [hret] at q; cases q) hk hn hq fun fs hl => retN X hx hret ht hd hl
theorem own_retA (X : Stand p l e R s m args below meth c T locs cells slots) (hx : p.tables.exec = Jvm.exec) {pc : Nat} {Ls : Array Slot} {z : Value} {t : FieldType} {rest : List Value} (hret : meth.sig.returnType = some t) (ht : t.isReference = true) (hz : z.isRef = true) (hd : decode c.code pc = .ok (.areturn, 1)) (hlk : meth.locks = false) {k n : Nat} (hk : cells ≤ k) (hn : slots ≤ n) (hq : Q (some z) T.heap locs) :
    own_Go p.tables e below (T.setTop (mkF m pc Ls (z :: rest))) (own_R s Q k n) := by
  refine own_leave X hlk (fun q => by rw [hret] at q; cases q) hk hn hq fun fs hl => ?_
  have hm' : T.vm.method? m = some meth := X.method'
  show Steps p.tables e below (T.setTop { method := m, pc := pc, locals := Ls, stack := _ :: rest, locked := none }) _
  jvm_step X.here [X.here.top, hx, hd, hm', hret, ht, hz]
  first | (intro acts; rw [hl _ acts rfl rfl rfl]) | rw [hl _ _ rfl rfl rfl]
  exact Steps.refl _
theorem own_retJ (X : Stand p l e R s m args below meth c T locs cells slots) (hx : p.tables.exec = Jvm.exec) {pc : Nat} {Ls : Array Slot} {z : Int64} {rest : List Value} (hret : meth.sig.returnType = some .long) (hd : decode c.code pc = .ok (.lreturn, 1)) (hlk : meth.locks = false) {k n : Nat} (hk : cells ≤ k) (hn : slots ≤ n) (hq : Q (some (.long z)) T.heap locs) :
    own_Go p.tables e below (T.setTop (mkF m pc Ls (.long z :: rest))) (own_R s Q k n) := by
  refine own_leave X hlk (fun q => by rw [hret] at q; cases q) hk hn hq fun fs hl => ?_
  have hm' : T.vm.method? m = some meth := X.method'
  show Steps p.tables e below (T.setTop { method := m, pc := pc, locals := Ls, stack := _ :: rest, locked := none }) _
  jvm_step X.here [X.here.top, hx, hd, hm', hret, narrow]
  first | (intro acts; rw [hl _ acts rfl rfl rfl]) | rw [hl _ _ rfl rfl rfl]
  exact Steps.refl _
theorem own_retV (X : Stand p l e R s m args below meth c T locs cells slots) (hx : p.tables.exec = Jvm.exec) {pc : Nat} {Ls : Array Slot} (hret : meth.sig.returnType = none) (hd : decode c.code pc = .ok (.return_, 1)) (hlk : meth.locks = false) {k n : Nat} (hk : cells ≤ k) (hn : slots ≤ n) (hq : Q none T.heap locs) :
    own_Go p.tables e below (T.setTop (mkF m pc Ls [])) (own_R s Q k n) :=
  own_leave X hlk (fun _ => rfl) hk hn hq fun fs hl => X.returnOut hx hret hd hl
theorem own_callS (X : Stand p l e R s m args below meth c T locs cells slots) (hx : p.tables.exec = Jvm.exec) (hZ : Z.Warmed39 s.vm) {y : MethodName} {bytes : ByteArray} {maxL : Nat} {rt : Option FieldType} {rm : Room} {as' : Array Value}
    (hM : own_Met l y bytes maxL rt [] rm as' Z h Q) {own : String} {index : Nat} (hown : s.vm.findClass own = some m.cls) (w1 : (Cond.methodLink own index y).before a0 Z = true) (w2 : (Cond.static y).before a0 Z = true) (w3 : (Cond.initialized y.cls).before a0 Z = true) (w4 : (Cond.code y bytes maxL rt).before a0 Z = true)
    (hy : y.cls ≠ "java/lang/invoke/MethodHandle" ∧ y.cls ≠ "java/lang/invoke/VarHandle") {W : Nat} (hf : rm.frames + 1 ≤ R.frames) (hl : W + (maxL + 11) + rm.locals ≤ R.locals) {pc : Nat} {Ls : Array Slot} (hsz : Ls.size = c.maxLocals) {argsL rest st : List Value} (ha : argsL.toArray = as')
    (hlen : ∀ sig, parseMethodDescriptor y.desc = some sig → argsL.length = sig.parameters.length) (hst : st = argsL.reverse ++ rest) (hW : (rest.map fun v => v.category).sum ≤ W) (hd : decode c.code pc = .ok (.invokestatic index, 3)) (eT : T.heap = h) (hc : cells + rm.cells ≤ R.cells) (hs : slots + rm.slots ≤ R.slots)
    (k : ∀ (v : Option Value) (T' : State) (L : List Loc), Stand p l e R s m args below meth c T' (locs ++ L) (cells + rm.cells) (slots + rm.slots) → Q v T'.heap L → own_Go p.tables e below (T'.setTop (mkF m (pc + 3) Ls (v.toList ++ rest))) RR) :
    own_Go p.tables e below (T.setTop (mkF m pc Ls st)) RR := by
  subst ha
  obtain ⟨v, _, ⟨T', L', k', n'⟩, -, X', ⟨Lc, hQ, l', y', z'⟩, stp⟩ := Jvm.LawKit.callS X hx (y := y) hown (mvT hZ w1) (mvT hZ w2) (mvT hZ w3) (mvT hZ w4) hy (backOf (W := W) hM hZ w4 w3 hf hl) (g := mkF m pc Ls st) rfl hsz (argsL := argsL) (rest := rest) hlen hst (by show 2 * 0 + _ ≤ _; omega) hd (fun _ _ => ⟨rfl, eT, hc, hs⟩)
  dsimp only [Pt.U, Pt.locs, Pt.cells, Pt.slots] at X' l' y' z' stp hQ
  subst l' y' z'
  exact own_st stp (k v T' Lc X' hQ)
theorem own_callV (X : Stand p l e R s m args below meth c T locs cells slots) (hx : p.tables.exec = Jvm.exec) (hZ : Z.Warmed39 s.vm) {y : MethodName} {bytes : ByteArray} {maxL : Nat} {rt : Option FieldType} {rm : Room} {as' : Array Value}
    (hM : own_Met l y bytes maxL rt [] rm as' Z h Q) {own C : String} {index : Nat} (hown : s.vm.findClass own = some m.cls) (w1 : (Cond.methodLink own index y).before a0 Z = true) (w2 : (Cond.declares y).before a0 Z = true) (w3 : (Cond.selects C y y).before a0 Z = true) (w4 : (Cond.instanceMethod y).before a0 Z = true) (w5 : (Cond.code y bytes maxL rt).before a0 Z = true) (w6 : (Cond.initialized y.cls).before a0 Z = true)
    (hy : y.cls ≠ "java/lang/invoke/MethodHandle" ∧ y.cls ≠ "java/lang/invoke/VarHandle") {a : Addr} (E : Exa Z h a C) {W : Nat} (hf : rm.frames + 1 ≤ R.frames) (hl : W + (maxL + 11) + rm.locals ≤ R.locals) {pc : Nat} {Ls : Array Slot} (hsz : Ls.size = c.maxLocals) {argsL rest st : List Value} (ha : (Value.ref a :: argsL).toArray = as')
    (hlen : ∀ sig, parseMethodDescriptor y.desc = some sig → argsL.length = sig.parameters.length) (hst : st = argsL.reverse ++ .ref a :: rest) (hW : (rest.map fun v => v.category).sum ≤ W) (hd : decode c.code pc = .ok (.invokevirtual index, 3)) (eT : T.heap = h) (hc : cells + rm.cells ≤ R.cells) (hs : slots + rm.slots ≤ R.slots)
    (k : ∀ (v : Option Value) (T' : State) (L : List Loc), Stand p l e R s m args below meth c T' (locs ++ L) (cells + rm.cells) (slots + rm.slots) → Q v T'.heap L → own_Go p.tables e below (T'.setTop (mkF m (pc + 3) Ls (v.toList ++ rest))) RR) :
    own_Go p.tables e below (T.setTop (mkF m pc Ls st)) RR := by
  subst ha
  obtain ⟨cB, kB, qa, qb, qc⟩ := isOf hZ eT E
  obtain ⟨v, _, ⟨T', L', k', n'⟩, -, X', ⟨Lc, hQ, l', y', z'⟩, stp⟩ := X.virtualBack hx (y := y) (z := y) hown (mvT hZ w1) (mvT hZ w2) (notFace_of_selects (args := #[]) (mvT hZ w3)) (mvT hZ w3) (mvT hZ w4) hy (backOf (W := W) hM hZ w5 w6 hf hl) qa qc (g := mkF m pc Ls st) rfl hsz (Steps.refl _) (argsL := argsL) (rest := rest) hlen hst (by show 2 * 0 + _ ≤ _; omega) hd (fun _ _ => ⟨rfl, eT, hc, hs⟩)
  dsimp only [Pt.U, Pt.locs, Pt.cells, Pt.slots] at X' l' y' z' stp hQ
  subst l' y' z'
  exact own_st (fun t k => stp.trans k) (k v T' Lc X' hQ)
theorem own_iload (X : Stand p l e R s m args below meth c T locs cells slots) (hx : p.tables.exec = Jvm.exec) {B : ByteArray} (hby : c.code = B) {pc pc' : Nat} {Ls : Array Slot} {S : List Value} {k : Nat} {v : Int32} (hd : decode B pc = .ok (.iload k, 2)) (hp : pc + 2 = pc') (hl : Ls[k]? = some (.val (.int v))) (g : own_Go p.tables e below (T.setTop (mkF m pc' Ls (.int v :: S))) RR) : own_Go p.tables e below (T.setTop (mkF m pc Ls S)) RR := by
  subst hp
  exact own_st (fun t k => XS.iload X.here hx rfl (hb hby hd) hl k) g
theorem own_iloadN (X : Stand p l e R s m args below meth c T locs cells slots) (hx : p.tables.exec = Jvm.exec) {B : ByteArray} (hby : c.code = B) {pc pc' : Nat} {Ls : Array Slot} {S : List Value} {k : Fin 4} {v : Int32} (hd : decode B pc = .ok (.iload_n k, 1)) (hp : pc + 1 = pc') (hl : Ls[k.val]? = some (.val (.int v))) (g : own_Go p.tables e below (T.setTop (mkF m pc' Ls (.int v :: S))) RR) : own_Go p.tables e below (T.setTop (mkF m pc Ls S)) RR := by
  subst hp
  exact own_st (fun t k => XS.iloadN X.here hx rfl (hb hby hd) hl k) g
theorem own_lload (X : Stand p l e R s m args below meth c T locs cells slots) (hx : p.tables.exec = Jvm.exec) {B : ByteArray} (hby : c.code = B) {pc pc' : Nat} {Ls : Array Slot} {S : List Value} {k : Nat} {v : Int64} (hd : decode B pc = .ok (.lload k, 2)) (hp : pc + 2 = pc') (hl : Ls[k]? = some (.val (.long v))) (g : own_Go p.tables e below (T.setTop (mkF m pc' Ls (.long v :: S))) RR) : own_Go p.tables e below (T.setTop (mkF m pc Ls S)) RR := by
  subst hp
  exact own_st (fun t k => XS.lload X.here hx rfl (hb hby hd) hl k) g
theorem own_lloadN (X : Stand p l e R s m args below meth c T locs cells slots) (hx : p.tables.exec = Jvm.exec) {B : ByteArray} (hby : c.code = B) {pc pc' : Nat} {Ls : Array Slot} {S : List Value} {k : Fin 4} {v : Int64} (hd : decode B pc = .ok (.lload_n k, 1)) (hp : pc + 1 = pc') (hl : Ls[k.val]? = some (.val (.long v))) (g : own_Go p.tables e below (T.setTop (mkF m pc' Ls (.long v :: S))) RR) : own_Go p.tables e below (T.setTop (mkF m pc Ls S)) RR := by
  subst hp
  exact own_st (fun t k => XS.lloadN X.here hx rfl (hb hby hd) hl k) g
theorem own_aload (X : Stand p l e R s m args below meth c T locs cells slots) (hx : p.tables.exec = Jvm.exec) {B : ByteArray} (hby : c.code = B) {pc pc' : Nat} {Ls : Array Slot} {S : List Value} {k : Nat} {v : Value} (hd : decode B pc = .ok (.aload k, 2)) (hp : pc + 2 = pc') (hl : Ls[k]? = some (.val v)) (hv : v.isRef = true) (g : own_Go p.tables e below (T.setTop (mkF m pc' Ls (v :: S))) RR) : own_Go p.tables e below (T.setTop (mkF m pc Ls S)) RR := by
  subst hp
  exact own_st (fun t k => XS.aload X.here hx rfl (hb hby hd) hl hv k) g
theorem own_aloadN (X : Stand p l e R s m args below meth c T locs cells slots) (hx : p.tables.exec = Jvm.exec) {B : ByteArray} (hby : c.code = B) {pc pc' : Nat} {Ls : Array Slot} {S : List Value} {k : Fin 4} {v : Value} (hd : decode B pc = .ok (.aload_n k, 1)) (hp : pc + 1 = pc') (hl : Ls[k.val]? = some (.val v)) (hv : v.isRef = true) (g : own_Go p.tables e below (T.setTop (mkF m pc' Ls (v :: S))) RR) : own_Go p.tables e below (T.setTop (mkF m pc Ls S)) RR := by
  subst hp
  exact own_st (fun t k => XS.aloadN X.here hx rfl (hb hby hd) hl hv k) g
theorem own_istore (X : Stand p l e R s m args below meth c T locs cells slots) (hx : p.tables.exec = Jvm.exec) {B : ByteArray} (hby : c.code = B) {pc pc' : Nat} {Ls : Array Slot} {S : List Value} {k : Nat} {v : Int32} {Ls' : Array Slot} (hd : decode B pc = .ok (.istore k, 2)) (hp : pc + 2 = pc') (hl : storeLocals Ls k (.int v) = some Ls') (g : own_Go p.tables e below (T.setTop (mkF m pc' Ls' S)) RR) : own_Go p.tables e below (T.setTop (mkF m pc Ls (.int v :: S))) RR := by
  subst hp
  exact own_st (fun t k => XS.istore X.here hx rfl (hb hby hd) rfl hl k) g
theorem own_istoreN (X : Stand p l e R s m args below meth c T locs cells slots) (hx : p.tables.exec = Jvm.exec) {B : ByteArray} (hby : c.code = B) {pc pc' : Nat} {Ls : Array Slot} {S : List Value} {k : Fin 4} {v : Int32} {Ls' : Array Slot} (hd : decode B pc = .ok (.istore_n k, 1)) (hp : pc + 1 = pc') (hl : storeLocals Ls k.val (.int v) = some Ls') (g : own_Go p.tables e below (T.setTop (mkF m pc' Ls' S)) RR) : own_Go p.tables e below (T.setTop (mkF m pc Ls (.int v :: S))) RR := by
  subst hp
  exact own_st (fun t k => XS.istoreN X.here hx rfl (hb hby hd) rfl hl k) g
theorem own_lstore (X : Stand p l e R s m args below meth c T locs cells slots) (hx : p.tables.exec = Jvm.exec) {B : ByteArray} (hby : c.code = B) {pc pc' : Nat} {Ls : Array Slot} {S : List Value} {k : Nat} {v : Int64} {Ls' : Array Slot} (hd : decode B pc = .ok (.lstore k, 2)) (hp : pc + 2 = pc') (hl : storeLocals Ls k (.long v) = some Ls') (g : own_Go p.tables e below (T.setTop (mkF m pc' Ls' S)) RR) : own_Go p.tables e below (T.setTop (mkF m pc Ls (.long v :: S))) RR := by
  subst hp
  exact own_st (fun t k => XS.lstore X.here hx rfl (hb hby hd) rfl hl k) g
theorem own_lstoreN (X : Stand p l e R s m args below meth c T locs cells slots) (hx : p.tables.exec = Jvm.exec) {B : ByteArray} (hby : c.code = B) {pc pc' : Nat} {Ls : Array Slot} {S : List Value} {k : Fin 4} {v : Int64} {Ls' : Array Slot} (hd : decode B pc = .ok (.lstore_n k, 1)) (hp : pc + 1 = pc') (hl : storeLocals Ls k.val (.long v) = some Ls') (g : own_Go p.tables e below (T.setTop (mkF m pc' Ls' S)) RR) : own_Go p.tables e below (T.setTop (mkF m pc Ls (.long v :: S))) RR := by
  subst hp
  exact own_st (fun t k => XS.lstoreN X.here hx rfl (hb hby hd) rfl hl k) g
theorem own_astore (X : Stand p l e R s m args below meth c T locs cells slots) (hx : p.tables.exec = Jvm.exec) {B : ByteArray} (hby : c.code = B) {pc pc' : Nat} {Ls : Array Slot} {S : List Value} {k : Nat} {v : Value} {Ls' : Array Slot} (hd : decode B pc = .ok (.astore k, 2)) (hp : pc + 2 = pc') (hv : v.isRef = true) (hl : storeLocals Ls k v = some Ls') (g : own_Go p.tables e below (T.setTop (mkF m pc' Ls' S)) RR) : own_Go p.tables e below (T.setTop (mkF m pc Ls (v :: S))) RR := by
  subst hp
  exact own_st (fun t k => XS.astore X.here hx rfl (hb hby hd) rfl hv hl k) g
theorem own_astoreN (X : Stand p l e R s m args below meth c T locs cells slots) (hx : p.tables.exec = Jvm.exec) {B : ByteArray} (hby : c.code = B) {pc pc' : Nat} {Ls : Array Slot} {S : List Value} {k : Fin 4} {v : Value} {Ls' : Array Slot} (hd : decode B pc = .ok (.astore_n k, 1)) (hp : pc + 1 = pc') (hv : v.isRef = true) (hl : storeLocals Ls k.val v = some Ls') (g : own_Go p.tables e below (T.setTop (mkF m pc' Ls' S)) RR) : own_Go p.tables e below (T.setTop (mkF m pc Ls (v :: S))) RR := by
  subst hp
  exact own_st (fun t k => XS.astoreN X.here hx rfl (hb hby hd) rfl hv hl k) g
theorem own_iconst (X : Stand p l e R s m args below meth c T locs cells slots) (hx : p.tables.exec = Jvm.exec) {B : ByteArray} (hby : c.code = B) {pc pc' : Nat} {Ls : Array Slot} {S : List Value} {i : Int} {z : Int32} (hd : decode B pc = .ok (.iconst i, 1)) (hp : pc + 1 = pc') (hz : Int32.ofInt i = z) (g : own_Go p.tables e below (T.setTop (mkF m pc' Ls (.int z :: S))) RR) : own_Go p.tables e below (T.setTop (mkF m pc Ls S)) RR := by
  subst hp
  subst hz
  exact own_st (fun t k => XS.iconst X.here hx rfl (hb hby hd) k) g
theorem own_bipush (X : Stand p l e R s m args below meth c T locs cells slots) (hx : p.tables.exec = Jvm.exec) {B : ByteArray} (hby : c.code = B) {pc pc' : Nat} {Ls : Array Slot} {S : List Value} {i : Int} {z : Int32} (hd : decode B pc = .ok (.bipush i, 2)) (hp : pc + 2 = pc') (hz : (Int8.ofInt i).toInt32 = z) (g : own_Go p.tables e below (T.setTop (mkF m pc' Ls (.int z :: S))) RR) : own_Go p.tables e below (T.setTop (mkF m pc Ls S)) RR := by
  subst hp
  subst hz
  exact own_st (fun t k => XS.bipush X.here hx rfl (hb hby hd) k) g
theorem own_sipush (X : Stand p l e R s m args below meth c T locs cells slots) (hx : p.tables.exec = Jvm.exec) {B : ByteArray} (hby : c.code = B) {pc pc' : Nat} {Ls : Array Slot} {S : List Value} {i : Int} {z : Int32} (hd : decode B pc = .ok (.sipush i, 3)) (hp : pc + 3 = pc') (hz : (Int16.ofInt i).toInt32 = z) (g : own_Go p.tables e below (T.setTop (mkF m pc' Ls (.int z :: S))) RR) : own_Go p.tables e below (T.setTop (mkF m pc Ls S)) RR := by
  subst hp
  subst hz
  exact own_st (fun t k => XS.sipush X.here hx rfl (hb hby hd) k) g
theorem own_lconst (X : Stand p l e R s m args below meth c T locs cells slots) (hx : p.tables.exec = Jvm.exec) {B : ByteArray} (hby : c.code = B) {pc pc' : Nat} {Ls : Array Slot} {S : List Value} {k : Fin 2} {z : Int64} (hd : decode B pc = .ok (.lconst k, 1)) (hp : pc + 1 = pc') (hz : Int64.ofNat k = z) (g : own_Go p.tables e below (T.setTop (mkF m pc' Ls (.long z :: S))) RR) : own_Go p.tables e below (T.setTop (mkF m pc Ls S)) RR := by
  subst hp
  subst hz
  exact own_st (fun t k => XS.lconst X.here hx rfl (hb hby hd) k) g
theorem own_aconst_null (X : Stand p l e R s m args below meth c T locs cells slots) (hx : p.tables.exec = Jvm.exec) {B : ByteArray} (hby : c.code = B) {pc pc' : Nat} {Ls : Array Slot} {S : List Value}  (hd : decode B pc = .ok (.aconst_null, 1)) (hp : pc + 1 = pc')  (g : own_Go p.tables e below (T.setTop (mkF m pc' Ls (.null :: S))) RR) : own_Go p.tables e below (T.setTop (mkF m pc Ls S)) RR := by
  subst hp
  exact own_st (fun t k => XS.aconstNull X.here hx rfl (hb hby hd) k) g
theorem own_iadd (X : Stand p l e R s m args below meth c T locs cells slots) (hx : p.tables.exec = Jvm.exec) {B : ByteArray} (hby : c.code = B) {pc pc' : Nat} {Ls : Array Slot} {S : List Value} {x y z : Int32} (hd : decode B pc = .ok (.iadd, 1)) (hp : pc + 1 = pc') (hz : x + y = z) (g : own_Go p.tables e below (T.setTop (mkF m pc' Ls (.int z :: S))) RR) : own_Go p.tables e below (T.setTop (mkF m pc Ls (.int y :: .int x :: S))) RR := by
  subst hp
  subst hz
  exact own_st (fun t k => XS.iadd X.here hx rfl (hb hby hd) rfl k) g
theorem own_ladd (X : Stand p l e R s m args below meth c T locs cells slots) (hx : p.tables.exec = Jvm.exec) {B : ByteArray} (hby : c.code = B) {pc pc' : Nat} {Ls : Array Slot} {S : List Value} {x y z : Int64} (hd : decode B pc = .ok (.ladd, 1)) (hp : pc + 1 = pc') (hz : x + y = z) (g : own_Go p.tables e below (T.setTop (mkF m pc' Ls (.long z :: S))) RR) : own_Go p.tables e below (T.setTop (mkF m pc Ls (.long y :: .long x :: S))) RR := by
  subst hp
  subst hz
  exact own_st (fun t k => XS.ladd X.here hx rfl (hb hby hd) rfl k) g
theorem own_isub (X : Stand p l e R s m args below meth c T locs cells slots) (hx : p.tables.exec = Jvm.exec) {B : ByteArray} (hby : c.code = B) {pc pc' : Nat} {Ls : Array Slot} {S : List Value} {x y z : Int32} (hd : decode B pc = .ok (.isub, 1)) (hp : pc + 1 = pc') (hz : x - y = z) (g : own_Go p.tables e below (T.setTop (mkF m pc' Ls (.int z :: S))) RR) : own_Go p.tables e below (T.setTop (mkF m pc Ls (.int y :: .int x :: S))) RR := by
  subst hp
  subst hz
  exact own_st (fun t k => XS.isub X.here hx rfl (hb hby hd) rfl k) g
theorem own_lsub (X : Stand p l e R s m args below meth c T locs cells slots) (hx : p.tables.exec = Jvm.exec) {B : ByteArray} (hby : c.code = B) {pc pc' : Nat} {Ls : Array Slot} {S : List Value} {x y z : Int64} (hd : decode B pc = .ok (.lsub, 1)) (hp : pc + 1 = pc') (hz : x - y = z) (g : own_Go p.tables e below (T.setTop (mkF m pc' Ls (.long z :: S))) RR) : own_Go p.tables e below (T.setTop (mkF m pc Ls (.long y :: .long x :: S))) RR := by
  subst hp
  subst hz
  exact own_st (fun t k => XS.lsub X.here hx rfl (hb hby hd) rfl k) g
theorem own_lmul (X : Stand p l e R s m args below meth c T locs cells slots) (hx : p.tables.exec = Jvm.exec) {B : ByteArray} (hby : c.code = B) {pc pc' : Nat} {Ls : Array Slot} {S : List Value} {x y z : Int64} (hd : decode B pc = .ok (.lmul, 1)) (hp : pc + 1 = pc') (hz : x * y = z) (g : own_Go p.tables e below (T.setTop (mkF m pc' Ls (.long z :: S))) RR) : own_Go p.tables e below (T.setTop (mkF m pc Ls (.long y :: .long x :: S))) RR := by
  subst hp
  subst hz
  exact own_st (fun t k => XS.lmul X.here hx rfl (hb hby hd) rfl k) g
theorem own_iand (X : Stand p l e R s m args below meth c T locs cells slots) (hx : p.tables.exec = Jvm.exec) {B : ByteArray} (hby : c.code = B) {pc pc' : Nat} {Ls : Array Slot} {S : List Value} {x y z : Int32} (hd : decode B pc = .ok (.iand, 1)) (hp : pc + 1 = pc') (hz : x &&& y = z) (g : own_Go p.tables e below (T.setTop (mkF m pc' Ls (.int z :: S))) RR) : own_Go p.tables e below (T.setTop (mkF m pc Ls (.int y :: .int x :: S))) RR := by
  subst hp
  subst hz
  exact own_st (fun t k => XS.iand X.here hx rfl (hb hby hd) rfl k) g
theorem own_land (X : Stand p l e R s m args below meth c T locs cells slots) (hx : p.tables.exec = Jvm.exec) {B : ByteArray} (hby : c.code = B) {pc pc' : Nat} {Ls : Array Slot} {S : List Value} {x y z : Int64} (hd : decode B pc = .ok (.land, 1)) (hp : pc + 1 = pc') (hz : x &&& y = z) (g : own_Go p.tables e below (T.setTop (mkF m pc' Ls (.long z :: S))) RR) : own_Go p.tables e below (T.setTop (mkF m pc Ls (.long y :: .long x :: S))) RR := by
  subst hp
  subst hz
  exact own_st (fun t k => XS.land X.here hx rfl (hb hby hd) rfl k) g
theorem own_lor (X : Stand p l e R s m args below meth c T locs cells slots) (hx : p.tables.exec = Jvm.exec) {B : ByteArray} (hby : c.code = B) {pc pc' : Nat} {Ls : Array Slot} {S : List Value} {x y z : Int64} (hd : decode B pc = .ok (.lor, 1)) (hp : pc + 1 = pc') (hz : x ||| y = z) (g : own_Go p.tables e below (T.setTop (mkF m pc' Ls (.long z :: S))) RR) : own_Go p.tables e below (T.setTop (mkF m pc Ls (.long y :: .long x :: S))) RR := by
  subst hp
  subst hz
  exact own_st (fun t k => XS.lor X.here hx rfl (hb hby hd) rfl k) g
theorem own_lxor (X : Stand p l e R s m args below meth c T locs cells slots) (hx : p.tables.exec = Jvm.exec) {B : ByteArray} (hby : c.code = B) {pc pc' : Nat} {Ls : Array Slot} {S : List Value} {x y z : Int64} (hd : decode B pc = .ok (.lxor, 1)) (hp : pc + 1 = pc') (hz : x ^^^ y = z) (g : own_Go p.tables e below (T.setTop (mkF m pc' Ls (.long z :: S))) RR) : own_Go p.tables e below (T.setTop (mkF m pc Ls (.long y :: .long x :: S))) RR := by
  subst hp
  subst hz
  exact own_st (fun t k => XS.lxor X.here hx rfl (hb hby hd) rfl k) g
theorem own_ishl (X : Stand p l e R s m args below meth c T locs cells slots) (hx : p.tables.exec = Jvm.exec) {B : ByteArray} (hby : c.code = B) {pc pc' : Nat} {Ls : Array Slot} {S : List Value} {x y z : Int32} (hd : decode B pc = .ok (.ishl, 1)) (hp : pc + 1 = pc') (hz : x <<< (y &&& 31) = z) (g : own_Go p.tables e below (T.setTop (mkF m pc' Ls (.int z :: S))) RR) : own_Go p.tables e below (T.setTop (mkF m pc Ls (.int y :: .int x :: S))) RR := by
  subst hp
  subst hz
  exact own_st (fun t k => XS.ishl X.here hx rfl (hb hby hd) rfl k) g
theorem own_iushr (X : Stand p l e R s m args below meth c T locs cells slots) (hx : p.tables.exec = Jvm.exec) {B : ByteArray} (hby : c.code = B) {pc pc' : Nat} {Ls : Array Slot} {S : List Value} {x y z : Int32} (hd : decode B pc = .ok (.iushr, 1)) (hp : pc + 1 = pc') (hz : (x.toUInt32 >>> (y &&& 31).toUInt32).toInt32 = z) (g : own_Go p.tables e below (T.setTop (mkF m pc' Ls (.int z :: S))) RR) : own_Go p.tables e below (T.setTop (mkF m pc Ls (.int y :: .int x :: S))) RR := by
  subst hp
  subst hz
  exact own_st (fun t k => XS.iushr X.here hx rfl (hb hby hd) rfl k) g
theorem own_lshl (X : Stand p l e R s m args below meth c T locs cells slots) (hx : p.tables.exec = Jvm.exec) {B : ByteArray} (hby : c.code = B) {pc pc' : Nat} {Ls : Array Slot} {S : List Value} {x z : Int64} {y : Int32} (hd : decode B pc = .ok (.lshl, 1)) (hp : pc + 1 = pc') (hz : x <<< (y &&& 0x3f).toInt64 = z) (g : own_Go p.tables e below (T.setTop (mkF m pc' Ls (.long z :: S))) RR) : own_Go p.tables e below (T.setTop (mkF m pc Ls (.int y :: .long x :: S))) RR := by
  subst hp
  subst hz
  exact own_st (fun t k => XS.lshl X.here hx rfl (hb hby hd) rfl k) g
theorem own_lushr (X : Stand p l e R s m args below meth c T locs cells slots) (hx : p.tables.exec = Jvm.exec) {B : ByteArray} (hby : c.code = B) {pc pc' : Nat} {Ls : Array Slot} {S : List Value} {x z : Int64} {y : Int32} (hd : decode B pc = .ok (.lushr, 1)) (hp : pc + 1 = pc') (hz : (x.toUInt64 >>> (y &&& 0x3f).toInt64.toUInt64).toInt64 = z) (g : own_Go p.tables e below (T.setTop (mkF m pc' Ls (.long z :: S))) RR) : own_Go p.tables e below (T.setTop (mkF m pc Ls (.int y :: .long x :: S))) RR := by
  subst hp
  subst hz
  exact own_st (fun t k => XS.lushr X.here hx rfl (hb hby hd) rfl k) g
theorem own_lneg (X : Stand p l e R s m args below meth c T locs cells slots) (hx : p.tables.exec = Jvm.exec) {B : ByteArray} (hby : c.code = B) {pc pc' : Nat} {Ls : Array Slot} {S : List Value} {x : Int64} {z : Int64} (hd : decode B pc = .ok (.lneg, 1)) (hp : pc + 1 = pc') (hz : -x = z) (g : own_Go p.tables e below (T.setTop (mkF m pc' Ls (.long z :: S))) RR) : own_Go p.tables e below (T.setTop (mkF m pc Ls (.long x :: S))) RR := by
  subst hp
  subst hz
  exact own_st (fun t k => XS.lneg X.here hx rfl (hb hby hd) rfl k) g
theorem own_i2l (X : Stand p l e R s m args below meth c T locs cells slots) (hx : p.tables.exec = Jvm.exec) {B : ByteArray} (hby : c.code = B) {pc pc' : Nat} {Ls : Array Slot} {S : List Value} {x : Int32} {z : Int64} (hd : decode B pc = .ok (.i2l, 1)) (hp : pc + 1 = pc') (hz : x.toInt64 = z) (g : own_Go p.tables e below (T.setTop (mkF m pc' Ls (.long z :: S))) RR) : own_Go p.tables e below (T.setTop (mkF m pc Ls (.int x :: S))) RR := by
  subst hp
  subst hz
  exact own_st (fun t k => XS.i2l X.here hx rfl (hb hby hd) rfl k) g
theorem own_l2i (X : Stand p l e R s m args below meth c T locs cells slots) (hx : p.tables.exec = Jvm.exec) {B : ByteArray} (hby : c.code = B) {pc pc' : Nat} {Ls : Array Slot} {S : List Value} {x : Int64} {z : Int32} (hd : decode B pc = .ok (.l2i, 1)) (hp : pc + 1 = pc') (hz : x.toInt32 = z) (g : own_Go p.tables e below (T.setTop (mkF m pc' Ls (.int z :: S))) RR) : own_Go p.tables e below (T.setTop (mkF m pc Ls (.long x :: S))) RR := by
  subst hp
  subst hz
  exact own_st (fun t k => XS.l2i X.here hx rfl (hb hby hd) rfl k) g
theorem own_ldiv (X : Stand p l e R s m args below meth c T locs cells slots) (hx : p.tables.exec = Jvm.exec) {B : ByteArray} (hby : c.code = B) {pc pc' : Nat} {Ls : Array Slot} {S : List Value} {x y z : Int64} (hd : decode B pc = .ok (.ldiv, 1)) (hp : pc + 1 = pc') (hy : y ≠ 0) (hz : x / y = z) (g : own_Go p.tables e below (T.setTop (mkF m pc' Ls (.long z :: S))) RR) : own_Go p.tables e below (T.setTop (mkF m pc Ls (.long y :: .long x :: S))) RR := by
  subst hp
  subst hz
  exact own_st (fun t k => XS.ldiv X.here hx rfl (hb hby hd) rfl hy k) g
theorem own_irem (X : Stand p l e R s m args below meth c T locs cells slots) (hx : p.tables.exec = Jvm.exec) {B : ByteArray} (hby : c.code = B) {pc pc' : Nat} {Ls : Array Slot} {S : List Value} {x y z : Int32} (hd : decode B pc = .ok (.irem, 1)) (hp : pc + 1 = pc') (hy : y ≠ 0) (hz : x - (x / y) * y = z) (g : own_Go p.tables e below (T.setTop (mkF m pc' Ls (.int z :: S))) RR) : own_Go p.tables e below (T.setTop (mkF m pc Ls (.int y :: .int x :: S))) RR := by
  subst hp
  subst hz
  exact own_st (fun t k => XS.irem X.here hx rfl (hb hby hd) rfl hy k) g
theorem own_lrem (X : Stand p l e R s m args below meth c T locs cells slots) (hx : p.tables.exec = Jvm.exec) {B : ByteArray} (hby : c.code = B) {pc pc' : Nat} {Ls : Array Slot} {S : List Value} {x y z : Int64} (hd : decode B pc = .ok (.lrem, 1)) (hp : pc + 1 = pc') (hy : y ≠ 0) (hz : x - (x / y) * y = z) (g : own_Go p.tables e below (T.setTop (mkF m pc' Ls (.long z :: S))) RR) : own_Go p.tables e below (T.setTop (mkF m pc Ls (.long y :: .long x :: S))) RR := by
  subst hp
  subst hz
  exact own_st (fun t k => XS.lrem X.here hx rfl (hb hby hd) rfl hy k) g
theorem own_lcmp (X : Stand p l e R s m args below meth c T locs cells slots) (hx : p.tables.exec = Jvm.exec) {B : ByteArray} (hby : c.code = B) {pc pc' : Nat} {Ls : Array Slot} {S : List Value} {x y : Int64} (hd : decode B pc = .ok (.lcmp, 1)) (hp : pc + 1 = pc')  (g : own_Go p.tables e below (T.setTop (mkF m pc' Ls (.int (lcmpW x y) :: S))) RR) : own_Go p.tables e below (T.setTop (mkF m pc Ls (.long y :: .long x :: S))) RR := by
  subst hp
  exact own_st (fun t k => XS.lcmp X.here hx rfl (hb hby hd) rfl k) g
theorem own_iinc (X : Stand p l e R s m args below meth c T locs cells slots) (hx : p.tables.exec = Jvm.exec) {B : ByteArray} (hby : c.code = B) {pc pc' : Nat} {Ls : Array Slot} {S : List Value} {k : Nat} {cst : Int} {x z : Int32} {Ls' : Array Slot} (hd : decode B pc = .ok (.iinc k cst, 3)) (hp : pc + 3 = pc') (hl : Ls[k]? = some (.val (.int x))) (hz : x + Int32.ofInt cst = z) (hl' : storeLocals Ls k (.int z) = some Ls') (g : own_Go p.tables e below (T.setTop (mkF m pc' Ls' S)) RR) : own_Go p.tables e below (T.setTop (mkF m pc Ls S)) RR := by
  subst hp
  subst hz
  exact own_st (fun t k => XS.iinc X.here hx rfl (hb hby hd) hl hl' k) g
theorem own_dup (X : Stand p l e R s m args below meth c T locs cells slots) (hx : p.tables.exec = Jvm.exec) {B : ByteArray} (hby : c.code = B) {pc pc' : Nat} {Ls : Array Slot} {S : List Value} {x : Value} (hd : decode B pc = .ok (.dup, 1)) (hp : pc + 1 = pc') (hc : x.category = 1) (g : own_Go p.tables e below (T.setTop (mkF m pc' Ls (x :: x :: S))) RR) : own_Go p.tables e below (T.setTop (mkF m pc Ls (x :: S))) RR := by
  subst hp
  exact own_st (fun t k => XS.dup X.here hx rfl (hb hby hd) rfl hc k) g
theorem own_dup_x1 (X : Stand p l e R s m args below meth c T locs cells slots) (hx : p.tables.exec = Jvm.exec) {B : ByteArray} (hby : c.code = B) {pc pc' : Nat} {Ls : Array Slot} {S : List Value} {x y : Value} (hd : decode B pc = .ok (.dup_x1, 1)) (hp : pc + 1 = pc') (hc : x.category = 1) (hc' : y.category = 1) (g : own_Go p.tables e below (T.setTop (mkF m pc' Ls (x :: y :: x :: S))) RR) : own_Go p.tables e below (T.setTop (mkF m pc Ls (x :: y :: S))) RR := by
  subst hp
  exact own_st (fun t k => XS.dupX1 X.here hx rfl (hb hby hd) rfl hc hc' k) g
theorem own_goto (X : Stand p l e R s m args below meth c T locs cells slots) (hx : p.tables.exec = Jvm.exec) {B : ByteArray} (hby : c.code = B) {pc pc' : Nat} {Ls : Array Slot} {S : List Value}  {o : Int} (hd : decode B pc = .ok (.goto o, 3)) (hp : 0 ≤ (pc : Int) + o ∧ ((pc : Int) + o).toNat = pc')  (g : own_Go p.tables e below (T.setTop (mkF m pc' Ls S)) RR) : own_Go p.tables e below (T.setTop (mkF m pc Ls S)) RR :=
  own_st (fun t k => XS.goto X.here hx rfl rfl (hb hby hd) hp.1 hp.2 k) g
theorem own_ifYes (X : Stand p l e R s m args below meth c T locs cells slots) (hx : p.tables.exec = Jvm.exec) {B : ByteArray} (hby : c.code = B) {pc pc' : Nat} {Ls : Array Slot} {S : List Value} {cd : ClassFile.Cond} {x : Int32} {o : Int} (hd : decode B pc = .ok (.ifCond cd o, 3)) (hp : 0 ≤ (pc : Int) + o ∧ ((pc : Int) + o).toNat = pc') (hc : if_icmp.holds cd x 0 = true) (g : own_Go p.tables e below (T.setTop (mkF m pc' Ls S)) RR) : own_Go p.tables e below (T.setTop (mkF m pc Ls (.int x :: S))) RR :=
  own_st (fun t k => XS.ifYes X.here hx rfl rfl (hb hby hd) rfl ((if0 _ _).trans hc) hp.1 hp.2 k) g
theorem own_icmpYes (X : Stand p l e R s m args below meth c T locs cells slots) (hx : p.tables.exec = Jvm.exec) {B : ByteArray} (hby : c.code = B) {pc pc' : Nat} {Ls : Array Slot} {S : List Value} {cd : ClassFile.Cond} {x y : Int32} {o : Int} (hd : decode B pc = .ok (.if_icmp cd o, 3)) (hp : 0 ≤ (pc : Int) + o ∧ ((pc : Int) + o).toNat = pc') (hc : if_icmp.holds cd x y = true) (g : own_Go p.tables e below (T.setTop (mkF m pc' Ls S)) RR) : own_Go p.tables e below (T.setTop (mkF m pc Ls (.int y :: .int x :: S))) RR :=
  own_st (fun t k => XS.icmpYes X.here hx rfl rfl (hb hby hd) rfl hc hp.1 hp.2 k) g
theorem own_ifnonnullYes (X : Stand p l e R s m args below meth c T locs cells slots) (hx : p.tables.exec = Jvm.exec) {B : ByteArray} (hby : c.code = B) {pc pc' : Nat} {Ls : Array Slot} {S : List Value} {b : Addr} {o : Int} (hd : decode B pc = .ok (.ifnonnull o, 3)) (hp : 0 ≤ (pc : Int) + o ∧ ((pc : Int) + o).toNat = pc')  (g : own_Go p.tables e below (T.setTop (mkF m pc' Ls S)) RR) : own_Go p.tables e below (T.setTop (mkF m pc Ls (.ref b :: S))) RR :=
  own_st (fun t k => XS.ifnonnullYes X.here hx rfl rfl (hb hby hd) rfl hp.1 hp.2 k) g
theorem own_ifNo (X : Stand p l e R s m args below meth c T locs cells slots) (hx : p.tables.exec = Jvm.exec) {B : ByteArray} (hby : c.code = B) {pc pc' : Nat} {Ls : Array Slot} {S : List Value} {cd : ClassFile.Cond} {o : Int} {x : Int32} (hd : decode B pc = .ok (.ifCond cd o, 3)) (hp : pc + 3 = pc') (hc : if_icmp.holds cd x 0 = false) (g : own_Go p.tables e below (T.setTop (mkF m pc' Ls S)) RR) : own_Go p.tables e below (T.setTop (mkF m pc Ls (.int x :: S))) RR := by
  subst hp
  exact own_st (fun t k => XS.ifNo X.here hx rfl (hb hby hd) rfl ((if0 _ _).trans hc) k) g
theorem own_icmpNo (X : Stand p l e R s m args below meth c T locs cells slots) (hx : p.tables.exec = Jvm.exec) {B : ByteArray} (hby : c.code = B) {pc pc' : Nat} {Ls : Array Slot} {S : List Value} {cd : ClassFile.Cond} {o : Int} {x y : Int32} (hd : decode B pc = .ok (.if_icmp cd o, 3)) (hp : pc + 3 = pc') (hc : if_icmp.holds cd x y = false) (g : own_Go p.tables e below (T.setTop (mkF m pc' Ls S)) RR) : own_Go p.tables e below (T.setTop (mkF m pc Ls (.int y :: .int x :: S))) RR := by
  subst hp
  exact own_st (fun t k => XS.icmpNo X.here hx rfl (hb hby hd) rfl hc k) g
theorem own_ifnonnullNo (X : Stand p l e R s m args below meth c T locs cells slots) (hx : p.tables.exec = Jvm.exec) {B : ByteArray} (hby : c.code = B) {pc pc' : Nat} {Ls : Array Slot} {S : List Value} {o : Int} (hd : decode B pc = .ok (.ifnonnull o, 3)) (hp : pc + 3 = pc')  (g : own_Go p.tables e below (T.setTop (mkF m pc' Ls S)) RR) : own_Go p.tables e below (T.setTop (mkF m pc Ls (.null :: S))) RR := by
  subst hp
  exact own_st (fun t k => XS.ifnonnullNo X.here hx rfl (hb hby hd) rfl k) g
theorem own_ldc (X : Stand p l e R s m args below meth c T locs cells slots) (hx : p.tables.exec = Jvm.exec) {B : ByteArray} (hby : c.code = B) {pc pc' : Nat} {Ls : Array Slot} {S : List Value} {own : String} {index : Nat} {v : Int32} (hd : decode B pc = .ok (.ldc index, 2)) (hp : pc + 2 = pc') (hZ : Z.Warmed39 s.vm) (hown : s.vm.findClass own = some m.cls) (w : (Cond.constant own index v).before a0 Z = true) (g : own_Go p.tables e below (T.setTop (mkF m pc' Ls (.int v :: S))) RR) : own_Go p.tables e below (T.setTop (mkF m pc Ls S)) RR := by
  subst hp
  exact own_st (X.ldcInt hx hown (mvT hZ w) (g := mkF m pc Ls S) rfl (hb hby hd)) g
theorem own_ldcw (X : Stand p l e R s m args below meth c T locs cells slots) (hx : p.tables.exec = Jvm.exec) {B : ByteArray} (hby : c.code = B) {pc pc' : Nat} {Ls : Array Slot} {S : List Value} {own : String} {index : Nat} {v : Int32} (hd : decode B pc = .ok (.ldc_w index, 3)) (hp : pc + 3 = pc') (hZ : Z.Warmed39 s.vm) (hown : s.vm.findClass own = some m.cls) (w : (Cond.constant own index v).before a0 Z = true) (g : own_Go p.tables e below (T.setTop (mkF m pc' Ls (.int v :: S))) RR) : own_Go p.tables e below (T.setTop (mkF m pc Ls S)) RR := by
  subst hp
  obtain ⟨k, cf, bytes, hk, hcf, hcp, hbb⟩ := Cond.constant_spec hown (mvT (args := args) hZ w)
  obtain ⟨k', hk', he⟩ := X.warmed.alike.2.2 _ _ hk
  have hd' : decode c.code (mkF m pc Ls S).pc = .ok (.ldc_w index, 3) := hb hby hd
  refine own_st (fun target hrest => ?_) g
  jvm_step X.here [hx, hd', ldc_w.wp_int (s := T) (f := mkF m pc Ls S) X.here.top hk' (by rw [he]; exact hcf) hcp, hbb]
  exact hrest
theorem own_ldc2 (X : Stand p l e R s m args below meth c T locs cells slots) (hx : p.tables.exec = Jvm.exec) {B : ByteArray} (hby : c.code = B) {pc pc' : Nat} {Ls : Array Slot} {S : List Value} {own : String} {index : Nat} {v : Int64} (hd : decode B pc = .ok (.ldc2_w index, 3)) (hp : pc + 3 = pc') (hZ : Z.Warmed39 s.vm) (hown : s.vm.findClass own = some m.cls) (w : (Cond.constantLong own index v).before a0 Z = true) (g : own_Go p.tables e below (T.setTop (mkF m pc' Ls (.long v :: S))) RR) : own_Go p.tables e below (T.setTop (mkF m pc Ls S)) RR := by
  subst hp
  exact own_st (X.ldc2Long hx hown (mvT hZ w) (g := mkF m pc Ls S) rfl (hb hby hd)) g
theorem own_getS (X : Stand p l e R s m args below meth c T locs cells slots) (hx : p.tables.exec = Jvm.exec) {B : ByteArray} (hby : c.code = B) {pc pc' : Nat} {Ls : Array Slot} {S : List Value} {own R0 O n d host : String} {index : Nat} {v : Value} (hd : decode B pc = .ok (.getstatic index, 3)) (hp : pc + 3 = pc') (hZ : Z.Warmed39 s.vm) (hown : s.vm.findClass own = some m.cls) (w : (Cond.fieldLink own index R0 n d).before a0 Z = true ∨ (Cond.fieldLinkNest own index R0 n d host).before a0 Z = true) (via : Via Z R0 O n d) (eT : T.heap = h) (F : Sta Z h O n d v) (g : ∀ T' : State, Stand p l e R s m args below meth c T' locs cells slots → T'.heap = h → own_Go p.tables e below (T'.setTop (mkF m pc' Ls (v :: S))) RR) : own_Go p.tables e below (T.setTop (mkF m pc Ls S)) RR := by
  subst hp
  obtain ⟨T', X', e', st⟩ := getS2 X hx hZ hown w via eT F (g := mkF m pc Ls S) rfl (hb hby hd)
  exact own_st st (g T' X' e')
theorem own_getF (X : Stand p l e R s m args below meth c T locs cells slots) (hx : p.tables.exec = Jvm.exec) {B : ByteArray} (hby : c.code = B) {pc pc' : Nat} {Ls : Array Slot} {S : List Value} {own R0 O n d host : String} {index : Nat} {v : Value} {a : Addr} (hd : decode B pc = .ok (.getfield index, 3)) (hp : pc + 3 = pc') (hZ : Z.Warmed39 s.vm) (hown : s.vm.findClass own = some m.cls) (w : (Cond.fieldLink own index R0 n d).before a0 Z = true ∨ (Cond.fieldLinkNest own index R0 n d host).before a0 Z = true) (via : Via Z R0 O n d) (eT : T.heap = h) (F : Fld Z h a O n d v) (g : ∀ T' : State, Stand p l e R s m args below meth c T' locs cells slots → T'.heap = h → own_Go p.tables e below (T'.setTop (mkF m pc' Ls (v :: S))) RR) : own_Go p.tables e below (T.setTop (mkF m pc Ls (.ref a :: S))) RR := by
  subst hp
  obtain ⟨T', X', e', st⟩ := getF X hx hZ hown w via eT F (g := mkF m pc Ls (.ref a :: S)) rfl rfl (hb hby hd)
  exact own_st st (g T' X' e')
theorem own_new (X : Stand p l e R s m args below meth c T locs cells slots) (hx : p.tables.exec = Jvm.exec) {B : ByteArray} (hby : c.code = B) {pc pc' : Nat} {Ls : Array Slot} {S : List Value} {own C : String} {index n : Nat} (hd : decode B pc = .ok (.new index, 3)) (hp : pc + 3 = pc') (hZ : Z.Warmed39 s.vm) (hown : s.vm.findClass own = some m.cls) (w : (Cond.classLink own index C).before a0 Z = true) (wi : (Cond.instantiable C n).before a0 Z = true) (wz : (Cond.initialized C).before a0 Z = true) (eT : T.heap = h) (hc : cells + 1 ≤ R.cells) (hl : slots + n ≤ R.slots) (g : ∀ (T' : State) (h' : Heap) (a : Addr), Stand p l e R s m args below meth c T' locs (cells + 1) (slots + n) → T'.heap = h' → a = h.size → Ext h h' → Exa Z h' a C → (∀ {O nm d : String} {ty : FieldType}, Laid Z a0 C O nm d → parseFieldDescriptor d = some ty → Fld Z h' a O nm d (defaultValue ty)) → own_Go p.tables e below (T'.setTop (mkF m pc' Ls (.ref a :: S))) RR) : own_Go p.tables e below (T.setTop (mkF m pc Ls S)) RR := by
  subst hp
  obtain ⟨T', h', X', e', E', A', D', -, st⟩ := newO X hx hZ hown w wi wz eT (g := mkF m pc Ls S) rfl (hb hby hd) hc hl
  exact own_st st (g T' h' _ X' e' rfl E' A' D')
theorem own_put (X : Stand p l e R s m args below meth c T locs cells slots) (hx : p.tables.exec = Jvm.exec) {B : ByteArray} (hby : c.code = B) {pc pc' : Nat} {Ls : Array Slot} {S : List Value} {own R0 O n d host C : String} {index kk : Nat} {ty : FieldType} {a : Addr} {v old : Value} (hd : decode B pc = .ok (.putfield index, 3)) (hp : pc + 3 = pc') (hZ : Z.Warmed39 s.vm) (hown : s.vm.findClass own = some m.cls) (w : (Cond.fieldLink own index R0 n d).before a0 Z = true ∨ (Cond.fieldLinkNest own index R0 n d host).before a0 Z = true) (via : Via Z R0 O n d) (eT : T.heap = h) (F : Fld Z h a O n d old) (E : Exa Z h a C) (L : (Cond.lays C O n d).before a0 Z = true ∨ ((Cond.laysFinal C O n d).before a0 Z = true ∧ own = O ∧ meth.name = "<init>")) (wi : (Cond.instantiable C kk).before a0 Z = true) (hty : parseFieldDescriptor d = some ty) (hn : narrow ty v = v) (hf : fits ty v = true) (g : ∀ (T' : State) (h' : Heap), Stand p l e R s m args below meth c T' (locs ++ [⟨a, Jvm.RoadKit.slotOf Z O n d⟩]) cells slots → T'.heap = h' → Wr h h' a (Jvm.RoadKit.slotOf Z O n d) v → own_Go p.tables e below (T'.setTop (mkF m pc' Ls S)) RR) : own_Go p.tables e below (T.setTop (mkF m pc Ls (v :: .ref a :: S))) RR := by
  subst hp
  obtain ⟨T', h', X', e', W', st⟩ := putF X hx hZ hown w via eT F E L wi hty hn hf (g := mkF m pc Ls (v :: .ref a :: S)) rfl rfl (hb hby hd)
  exact own_st st (g T' h' X' e' W')
theorem own_initO (X : Stand p l e R s m args below meth c T locs cells slots) (hx : p.tables.exec = Jvm.exec) {B : ByteArray} (hby : c.code = B) {pc pc' : Nat} {Ls : Array Slot} {S : List Value} {own : String} {index : Nat} {a : Addr} (hd : decode B pc = .ok (.invokespecial index, 3)) (hp : pc + 3 = pc') (hZ : Z.Warmed39 s.vm) (hown : s.vm.findClass own = some m.cls) (w1 : (Cond.methodLink own index Lib.objectInit).before a0 Z = true) (w2 : (Cond.instanceMethod Lib.objectInit).before a0 Z = true) (w3 : (Cond.code Lib.objectInit ⟨#[0xb1]⟩ 1 none).before a0 Z = true) (eT : T.heap = h) (hsz : Ls.size = c.maxLocals) (hf : 1 ≤ R.frames) {W : Nat} (hW : (S.map fun v => v.category).sum ≤ W) (hl : W + 12 ≤ R.locals) (g : ∀ (T' : State), Stand p l e R s m args below meth c T' locs cells slots → T'.heap = h → own_Go p.tables e below (T'.setTop (mkF m pc' Ls S)) RR) : own_Go p.tables e below (T.setTop (mkF m pc Ls (.ref a :: S))) RR := by
  subst hp
  obtain ⟨T', X', e', st⟩ := initO X hx hZ hown w1 w2 w3 eT (g := mkF m pc Ls (.ref a :: S)) rfl hsz rfl (hb hby hd) hf (W := W) (by show 2 * 0 + _ ≤ _; omega) hl
  exact own_st st (g T' X' e')
theorem own_callSp (X : Stand p l e R s m args below meth c T locs cells slots) (hx : p.tables.exec = Jvm.exec) (hZ : Z.Warmed39 s.vm) {y : MethodName} {bytes : ByteArray} {maxL : Nat} {rm : Room} {as' : Array Value}
    (hM : own_Met l y bytes maxL none [] rm as' Z h Q) (hin : y.name = "<init>") {own : String} {index : Nat} (hown : s.vm.findClass own = some m.cls) (w1 : (Cond.methodLink own index y).before a0 Z = true) (w4 : (Cond.instanceMethod y).before a0 Z = true) (w5 : (Cond.code y bytes maxL none).before a0 Z = true) (w6 : (Cond.initialized y.cls).before a0 Z = true)
    (hy : y.cls ≠ "java/lang/invoke/MethodHandle" ∧ y.cls ≠ "java/lang/invoke/VarHandle") {a : Addr} {W : Nat} (hf : rm.frames + 1 ≤ R.frames) (hl : W + (maxL + 11) + rm.locals ≤ R.locals) {pc : Nat} {Ls : Array Slot} (hsz : Ls.size = c.maxLocals) {argsL rest st : List Value} (ha : (Value.ref a :: argsL).toArray = as')
    (hlen : ∀ sig, parseMethodDescriptor y.desc = some sig → argsL.length = sig.parameters.length) (hst : st = argsL.reverse ++ .ref a :: rest) (hW : (rest.map fun v => v.category).sum ≤ W) (hd : decode c.code pc = .ok (.invokespecial index, 3)) (eT : T.heap = h) (hc : cells + rm.cells ≤ R.cells) (hs : slots + rm.slots ≤ R.slots)
    (k : ∀ (v : Option Value) (T' : State) (L : List Loc), Stand p l e R s m args below meth c T' (locs ++ L) (cells + rm.cells) (slots + rm.slots) → Q v T'.heap L → own_Go p.tables e below (T'.setTop (mkF m (pc + 3) Ls (v.toList ++ rest))) RR) :
    own_Go p.tables e below (T.setTop (mkF m pc Ls st)) RR := by
  subst ha
  obtain ⟨v, _, ⟨T', L', k', n'⟩, -, X', ⟨Lc, hQ, l', y', z'⟩, stp⟩ := X.specialBack hx (y := y) hin hown (mvT hZ w1) (mvT hZ w4) (mvT hZ w5) hy (backOf (W := W) hM hZ w5 w6 hf hl) (g := mkF m pc Ls st) rfl hsz (Steps.refl _) (a := a) (argsL := argsL) (rest := rest) hlen hst (by show 2 * 0 + _ ≤ _; omega) hd (fun _ _ => ⟨rfl, eT, hc, hs⟩)
  dsimp only [Pt.U, Pt.locs, Pt.cells, Pt.slots] at X' l' y' z' stp hQ
  subst l' y' z'
  exact own_st (fun t k => stp.trans k) (k v T' Lc X' hQ)
/-! arrays: own_Ar says all that an array holds, by a list -/
def own_Ar (Z : State) (h : Heap) (a : Addr) (ty : FieldType) (vs : List Value) : Prop := ∃ c : Cell, Arr Z h a c ty ∧ c.slots.toList = vs
theorem own_Ar.lt {a : Addr} {ty : FieldType} {vs : List Value} (F : own_Ar Z h a ty vs) : a < h.size := by obtain ⟨c, A, -⟩ := F; exact A.lt
theorem own_Ar.ext {h' : Heap} {a : Addr} {ty : FieldType} {vs : List Value} (F : own_Ar Z h a ty vs) (E : Ext h h') : own_Ar Z h' a ty vs := by obtain ⟨c, A, q⟩ := F; exact ⟨c, A.ext E, q⟩
theorem own_Ar.other {h' : Heap} {a b : Addr} {sl : Nat} {v : Value} {ty : FieldType} {vs : List Value} (F : own_Ar Z h b ty vs) (W : Wr h h' a sl v) (q : b ≠ a) : own_Ar Z h' b ty vs := by obtain ⟨c, A, r⟩ := F; exact ⟨c, A.other W q, r⟩
theorem own_Ar.keep {h' : Heap} {a : Addr} {ws : List Addr} {ty : FieldType} {vs : List Value} (F : own_Ar Z h a ty vs) (K : Keep h h' ws) (q : a ∉ ws) : own_Ar Z h' a ty vs := by obtain ⟨c, A, r⟩ := F; exact ⟨c, ⟨K.2.1 a c A.1 q, A.2⟩, r⟩
theorem own_Ar.same {h' : Heap} {a : Addr} {sl : Nat} {v : Value} {ty : FieldType} {vs : List Value} (F : own_Ar Z h a ty vs) (W : Wr h h' a sl v) : own_Ar Z h' a ty (vs.set sl v) := by
  obtain ⟨c, A, r⟩ := F
  refine ⟨_, A.same W, ?_⟩
  rw [← r]
  show (c.slots.setIfInBounds sl v).toList = _
  exact Array.toList_setIfInBounds
theorem own_Ar.at {a : Addr} {ty : FieldType} {vs : List Value} (F : own_Ar Z h a ty vs) {j : Int32} (hj : ¬ j < 0) {v : Value} (hv : vs[j.toNatClampNeg]? = some v) : ∃ c : Cell, Arr Z h a c ty ∧ c.slots.toList = vs ∧ ¬ (j < 0 ∨ c.slots.size ≤ j.toNatClampNeg) ∧ c.slots[j.toNatClampNeg]? = some v := by
  obtain ⟨c, A, r⟩ := F
  subst r
  have q : c.slots[j.toNatClampNeg]? = some v := by rw [← Array.getElem?_toList]; exact hv
  refine ⟨c, A, rfl, ?_, q⟩
  rintro (u | u)
  · exact hj u
  · rw [Array.getElem?_eq_none u] at q; cases q
theorem own_newA (X : Stand p l e R s m args below meth c T locs cells slots) (hx : p.tables.exec = Jvm.exec) {B : ByteArray} (hby : c.code = B) {pc pc' : Nat} {Ls : Array Slot} {S : List Value} {aty : ArrayType} {n : Int32} {vs : List Value} (hd : decode B pc = .ok (.newarray aty, 2)) (hp : pc + 2 = pc') (hZ : Z.Warmed39 s.vm) (w : (Cond.arrayClass (newarray.typeOf aty)).before a0 Z = true) (eT : T.heap = h) (hn : ¬ n < 0) {cap : Nat} (hcap : n.toNatClampNeg ≤ cap) (hbig : cap * 8 ≤ 536870912) (hc : cells + 1 ≤ R.cells) (hl : slots + cap ≤ R.slots) (hvs : List.replicate n.toNatClampNeg (defaultValue (newarray.typeOf aty)) = vs) (g : ∀ (T' : State) (h' : Heap) (a : Addr), Stand p l e R s m args below meth c T' locs (cells + 1) (slots + cap) → T'.heap = h' → a = h.size → Ext h h' → own_Ar Z h' a (newarray.typeOf aty) vs → own_Go p.tables e below (T'.setTop (mkF m pc' Ls (.ref a :: S))) RR) : own_Go p.tables e below (T.setTop (mkF m pc Ls (.int n :: S))) RR := by
  subst hp
  obtain ⟨T', h', cA, X', e', E', A', st⟩ := newP X hx hZ w eT (g := mkF m pc Ls (.int n :: S)) rfl (hb hby hd) rfl hn hcap hbig hc hl
  exact own_st st (g T' h' _ X' e' rfl E' ⟨_, A', by rw [← hvs]; exact Array.toList_replicate⟩)
theorem own_iaload (X : Stand p l e R s m args below meth c T locs cells slots) (hx : p.tables.exec = Jvm.exec) {B : ByteArray} (hby : c.code = B) {pc pc' : Nat} {Ls : Array Slot} {S : List Value} {a : Addr} {j : Int32} {v : Value} {vs : List Value} (hd : decode B pc = .ok (.iaload, 1)) (hp : pc + 1 = pc') (hZ : Z.Warmed39 s.vm) (eT : T.heap = h) (A : own_Ar Z h a .int vs) (hj : ¬ j < 0) (hv : vs[j.toNatClampNeg]? = some v) (g : own_Go p.tables e below (T.setTop (mkF m pc' Ls (v :: S))) RR) : own_Go p.tables e below (T.setTop (mkF m pc Ls (.int j :: .ref a :: S))) RR := by
  subst hp
  obtain ⟨cl, Ar, -, hin, hat⟩ := A.at hj hv
  exact own_st (fun t k => X.iaload hx (j := j) (v := v) (by rw [eT]; exact Ar.1) (State.isArrayOf_alike hZ.alike Ar.2.1) Ar.2.2 hin hat (g := mkF m pc Ls (.int j :: .ref a :: S)) rfl rfl (hb hby hd) t k) g
theorem own_laload (X : Stand p l e R s m args below meth c T locs cells slots) (hx : p.tables.exec = Jvm.exec) {B : ByteArray} (hby : c.code = B) {pc pc' : Nat} {Ls : Array Slot} {S : List Value} {a : Addr} {j : Int32} {v : Value} {vs : List Value} (hd : decode B pc = .ok (.laload, 1)) (hp : pc + 1 = pc') (hZ : Z.Warmed39 s.vm) (eT : T.heap = h) (A : own_Ar Z h a .long vs) (hj : ¬ j < 0) (hv : vs[j.toNatClampNeg]? = some v) (g : own_Go p.tables e below (T.setTop (mkF m pc' Ls (v :: S))) RR) : own_Go p.tables e below (T.setTop (mkF m pc Ls (.int j :: .ref a :: S))) RR := by
  subst hp
  obtain ⟨cl, Ar, -, hin, hat⟩ := A.at hj hv
  exact own_st (fun t k => X.laload hx (j := j) (v := v) (by rw [eT]; exact Ar.1) (State.isArrayOf_alike hZ.alike Ar.2.1) Ar.2.2 hin hat (g := mkF m pc Ls (.int j :: .ref a :: S)) rfl rfl (hb hby hd) t k) g
theorem own_aaload (X : Stand p l e R s m args below meth c T locs cells slots) (hx : p.tables.exec = Jvm.exec) {B : ByteArray} (hby : c.code = B) {pc pc' : Nat} {Ls : Array Slot} {S : List Value} {a : Addr} {j : Int32} {v : Value} {vs : List Value} {ty : FieldType} (hty : ty.isReference = true) (hd : decode B pc = .ok (.aaload, 1)) (hp : pc + 1 = pc') (hZ : Z.Warmed39 s.vm) (eT : T.heap = h) (A : own_Ar Z h a ty vs) (hj : ¬ j < 0) (hv : vs[j.toNatClampNeg]? = some v) (g : own_Go p.tables e below (T.setTop (mkF m pc' Ls (v :: S))) RR) : own_Go p.tables e below (T.setTop (mkF m pc Ls (.int j :: .ref a :: S))) RR := by
  subst hp
  obtain ⟨cl, Ar, -, hin, hat⟩ := A.at hj hv
  exact own_st (fun t k => X.aaload hx (j := j) (v := v) (by rw [eT]; exact Ar.1) (State.isArrayOf_alike hZ.alike Ar.2.1) hty Ar.2.2 hin hat (g := mkF m pc Ls (.int j :: .ref a :: S)) rfl rfl (hb hby hd) t k) g
theorem own_iastore (X : Stand p l e R s m args below meth c T locs cells slots) (hx : p.tables.exec = Jvm.exec) {B : ByteArray} (hby : c.code = B) {pc pc' : Nat} {Ls : Array Slot} {S : List Value} {a : Addr} {j : Int32} {x : Int32} {v : Value} {vs : List Value} (hd : decode B pc = .ok (.iastore, 1)) (hp : pc + 1 = pc') (hZ : Z.Warmed39 s.vm) (eT : T.heap = h) (A : own_Ar Z h a .int vs) (hj : ¬ j < 0) (hv : vs[j.toNatClampNeg]? = some v) (g : ∀ (T' : State) (h' : Heap), Stand p l e R s m args below meth c T' (locs ++ [⟨a, j.toNatClampNeg⟩]) cells slots → T'.heap = h' → Wr h h' a j.toNatClampNeg (.int x) → own_Ar Z h' a .int (vs.set j.toNatClampNeg (.int x)) → own_Go p.tables e below (T'.setTop (mkF m pc' Ls S)) RR) : own_Go p.tables e below (T.setTop (mkF m pc Ls ((.int x) :: .int j :: .ref a :: S))) RR := by
  subst hp
  obtain ⟨cl, Ar, r, hin, hat⟩ := A.at hj hv
  obtain ⟨T', h', X', e', W', st⟩ := stI X hx hZ eT Ar (j := j) (x := x) hin (g := mkF m pc Ls ((.int x) :: .int j :: .ref a :: S)) rfl rfl (hb hby hd)
  exact own_st st (g T' h' X' e' W' (A.same W'))
theorem own_len (X : Stand p l e R s m args below meth c T locs cells slots) (hx : p.tables.exec = Jvm.exec) {B : ByteArray} (hby : c.code = B) {pc pc' : Nat} {Ls : Array Slot} {S : List Value} {a : Addr} {ty : FieldType} {n : Int32} {vs : List Value} (hd : decode B pc = .ok (.arraylength, 1)) (hp : pc + 1 = pc') (hZ : Z.Warmed39 s.vm) (eT : T.heap = h) (A : own_Ar Z h a ty vs) (hn : vs.length.toInt32 = n) (g : own_Go p.tables e below (T.setTop (mkF m pc' Ls (.int n :: S))) RR) : own_Go p.tables e below (T.setTop (mkF m pc Ls (.ref a :: S))) RR := by
  subst hp hn
  obtain ⟨cl, Ar, r⟩ := A
  subst r
  exact own_st (fun t k => X.arraylength hx (by rw [eT]; exact Ar.1) (State.isArrayOf_alike hZ.alike Ar.2.1) (g := mkF m pc Ls (.ref a :: S)) rfl rfl (hb hby hd) t (by rw [← Array.length_toList]; exact k)) g
theorem own_Ar.arv {a : Addr} {ty : FieldType} {vs : List Value} {dv : Value} (F : own_Ar Z h a ty vs) (hl : vs.length < 2 ^ 31) (hf : ∀ v ∈ vs, fits ty v = true) : ∃ k, vs.length.toInt32.toNatClampNeg = vs.length ∧ Arv Z h a k ty vs.length.toInt32 vs dv := by
  obtain ⟨c, A, r⟩ := F
  subst r
  have e : c.slots.toList.length = c.slots.size := Array.length_toList
  have i : c.slots.size.toInt32.toInt = (c.slots.size : Int) := len_toInt (by rw [← e]; exact hl)
  have z : c.slots.size.toInt32.toNatClampNeg = c.slots.size := by simp only [Int32.toNatClampNeg, i]; rfl
  have g : ∀ k, k < c.slots.size → c.slots[k]? = some (c.slots.toList.getD k dv) := fun k hk => by
    rw [List.getD_eq_getElem?_getD, Array.getElem?_toList, Array.getElem?_eq_getElem hk]; rfl
  rw [e]
  refine ⟨c.cls, z, c, A, rfl, z.symm, ?_, g, fun k hk => ?_⟩
  · intro q
    have q' := Int32.lt_iff_toInt_lt.mp q
    rw [i] at q'
    have z0 : (0 : Int32).toInt = 0 := rfl
    omega
  · have q := g k hk
    refine hf _ ?_
    rw [← Array.getElem?_toList] at q
    exact List.mem_of_getElem? q
theorem own_Ar.of_arv {a : Addr} {k : ClassId} {z : Int32} {ty : FieldType} {vs : List Value} {dv : Value} (F : Arv Z h a k ty z vs dv) (hl : vs.length = z.toNatClampNeg) : own_Ar Z h a ty vs := by
  obtain ⟨c, A, -, S, -, H, -⟩ := F
  refine ⟨c, A, ?_⟩
  apply List.ext_getElem?
  intro i
  rw [Array.getElem?_toList]
  by_cases q : i < c.slots.size
  · rw [H i q, List.getD_eq_getElem?_getD, List.getElem?_eq_getElem (by omega)]; rfl
  · rw [Array.getElem?_eq_none (by omega), List.getElem?_eq_none (by omega)]
theorem own_range {vs : List Value} {dv : Value} : ∀ (n sp : Nat), sp + n ≤ vs.length → ((List.range n).map fun i => vs.getD (sp + i) dv) = (vs.drop sp).take n := by
  intro n sp hle
  apply List.ext_getElem?
  intro i
  by_cases q : i < n
  · rw [List.getElem?_map, List.getElem?_range q, List.getElem?_take_of_lt q, List.getElem?_drop, List.getElem?_eq_getElem (by omega)]
    simp only [Option.map_some]
    rw [List.getD_eq_getElem?_getD, List.getElem?_eq_getElem (by omega)]; rfl
  · rw [List.getElem?_eq_none (by simp; omega), List.getElem?_eq_none (by simp; omega)]
theorem own_cp (X : Stand p l e R s m args below meth c T locs cells slots) (hx : p.tables.exec = Jvm.exec) {B : ByteArray} (hby : c.code = B) {pc pc' : Nat} {Ls : Array Slot} {S : List Value} {own : String} {index : Nat} {a b : Addr} {sp dp nn : Int32} {vs vd us : List Value} (hd : decode B pc = .ok (.invokestatic index, 3)) (hp : pc + 3 = pc') (hZ : Z.Warmed39 s.vm) (hown : s.vm.findClass own = some m.cls) (w1 : (Cond.methodLink own index Jvm.Stand.acN).before a0 Z = true) (w2 : (Cond.native Jvm.Stand.acN).before a0 Z = true) (w3 : (Cond.static Jvm.Stand.acN).before a0 Z = true) (w4 : (Cond.initialized "java/lang/System").before a0 Z = true) (eT : T.heap = h) {ty : FieldType} (hty : refKind ty = false) (A : own_Ar Z h a ty vs) (D : own_Ar Z h b ty vd) (hA : ∀ v ∈ vs, fits ty v = true) (hD : ∀ v ∈ vd, fits ty v = true) (h1 : ¬ sp < 0) (h2 : ¬ dp < 0) (h3 : ¬ nn < 0) (h4 : sp.toNatClampNeg + nn.toNatClampNeg ≤ vs.length) (h5 : dp.toNatClampNeg + nn.toNatClampNeg ≤ vd.length) (lA : vs.length < 2 ^ 31) (lD : vd.length < 2 ^ 31) (hus : vd.take dp.toNatClampNeg ++ (vs.drop sp.toNatClampNeg).take nn.toNatClampNeg ++ vd.drop (dp.toNatClampNeg + nn.toNatClampNeg) = us) {n0 : Nat} (N : Fr n0 locs) (ge : n0 ≤ b) (hsz : Ls.size = c.maxLocals) (hf : 1 ≤ R.frames) {W : Nat} (hW : (S.map fun v => v.category).sum ≤ W) (hlo : W + (nativeFrameWords "java/lang/System" "arraycopy" 5 + 11) ≤ R.locals) (g : ∀ (T' : State) (h' : Heap) (L : List Loc), Stand p l e R s m args below meth c T' L cells slots → T'.heap = h' → Fr n0 L → Keep h h' [b] → own_Ar Z h' b ty us → own_Go p.tables e below (T'.setTop (mkF m pc' Ls S)) RR) : own_Go p.tables e below (T.setTop (mkF m pc Ls (.int nn :: .int dp :: .ref b :: .int sp :: .ref a :: S))) RR := by
  subst hp
  obtain ⟨k, q1, A'⟩ := A.arv (dv := .null) lA hA
  obtain ⟨k', q2, D'⟩ := D.arv (dv := .null) lD hD
  obtain ⟨T', h', L, X', e', N', K', B', st⟩ := cpA X hx hZ hown w1 w2 w3 w4 eT A' D' (Or.inl ⟨rfl, hty⟩) h1 h2 h3 (by rw [q1]; exact h4) (by rw [q2]; exact h5) rfl h5 N ge (g := mkF m pc Ls (.int nn :: .int dp :: .ref b :: .int sp :: .ref a :: S)) rfl hsz rfl (hb hby hd) hf (W := W) (by show 2 * 0 + _ ≤ _; omega) hlo
  rw [own_range _ _ h4, hus] at B'
  refine own_st st (g T' h' L X' e' N' K' (own_Ar.of_arv B' ?_))
  rw [q2, ← hus]
  simp only [List.length_append, List.length_take, List.length_drop]
  omega
end Own
theorem own_nar0 : nar .boolean (0 : Int32) = 0 := by decide
theorem own_nar1 : nar .boolean (1 : Int32) = 1 := by decide
/-! arrays of references: own_Ra; calls through an interface -/
section OwnRefs
variable {p : Program} {l : Launch} {e : Env} {R : Room} {s : State} {m : MethodId} {args : Array Value} {below : List Frame} {meth : Method} {c : Code} {T : State} {locs : List Loc} {cells slots : Nat} {Z : State} {a0 : Array Value} {h h' : Heap} {Q : Option Value → Heap → List Loc → Prop} {RR : Outcome → State → Prop} {a : Addr} {C : String} {vs : List Value} {ws : List Addr}
def own_Ra (Z : State) (h : Heap) (a : Addr) (C : String) (vs : List Value) : Prop := ∃ c : Cell, Arr Z h a c (.object C) ∧ c.slots.toList = vs ∧ Ovr Z c.cls C
theorem own_Ra.ar (F : own_Ra Z h a C vs) : own_Ar Z h a (.object C) vs := by obtain ⟨c, A, r, -⟩ := F; exact ⟨c, A, r⟩
theorem own_Ra.lt (F : own_Ra Z h a C vs) : a < h.size := F.ar.lt
theorem own_Ra.ext (F : own_Ra Z h a C vs) (E : Ext h h') : own_Ra Z h' a C vs := by obtain ⟨c, A, r, o⟩ := F; exact ⟨c, A.ext E, r, o⟩
theorem own_Ra.other {b : Addr} {sl : Nat} {v : Value} (F : own_Ra Z h a C vs) (W : Wr h h' b sl v) (q : a ≠ b) : own_Ra Z h' a C vs := by obtain ⟨c, A, r, o⟩ := F; exact ⟨c, A.other W q, r, o⟩
theorem own_Ra.keep (F : own_Ra Z h a C vs) (K : Keep h h' ws) (q : a ∉ ws) : own_Ra Z h' a C vs := by obtain ⟨c, A, r, o⟩ := F; exact ⟨c, ⟨K.2.1 a c A.1 q, A.2⟩, r, o⟩
theorem own_Ra.same {sl : Nat} {v : Value} (F : own_Ra Z h a C vs) (W : Wr h h' a sl v) : own_Ra Z h' a C (vs.set sl v) := by
  obtain ⟨c, A, r, o⟩ := F
  refine ⟨_, A.same W, ?_, o⟩
  rw [← r]
  show (c.slots.setIfInBounds sl v).toList = _
  exact Array.toList_setIfInBounds
theorem own_newR (X : Stand p l e R s m args below meth c T locs cells slots) (hx : p.tables.exec = Jvm.exec) {B : ByteArray} (hby : c.code = B) {pc pc' : Nat} {Ls : Array Slot} {S : List Value} {own : String} {index : Nat} {n : Int32} (hd : decode B pc = .ok (.anewarray index, 3)) (hp : pc + 3 = pc') (hZ : Z.Warmed39 s.vm) (hown : s.vm.findClass own = some m.cls) (w1 : (Cond.classLink own index C).before a0 Z = true) (w2 : (Cond.arrayOver (.object C)).before a0 Z = true) (eT : T.heap = h) (hn : ¬ n < 0) {cap : Nat} (hcap : n.toNatClampNeg ≤ cap) (hbig : cap * 8 ≤ 536870912) (hc : cells + 1 ≤ R.cells) (hl : slots + cap ≤ R.slots) {ad : String} (had : "[" ++ (FieldType.object C).toString = ad) (hvs : List.replicate n.toNatClampNeg Value.null = vs)
    (g : ∀ (T' : State) (h' : Heap) (a : Addr), Stand p l e R s m args below meth c T' locs (cells + 1) (slots + cap) → T'.heap = h' → a = h.size → Ext h h' → own_Ra Z h' a C vs → Exa Z h' a ad → own_Go p.tables e below (T'.setTop (mkF m pc' Ls (.ref a :: S))) RR) : own_Go p.tables e below (T.setTop (mkF m pc Ls (.int n :: S))) RR := by
  subst hp
  obtain ⟨T', h', cA, X', e', E', A', F', O', st⟩ := newRE X hx hZ hown w1 w2 eT (g := mkF m pc Ls (.int n :: S)) rfl (hb hby hd) rfl hn hcap hbig hc hl had
  exact own_st st (g T' h' _ X' e' rfl E' ⟨_, A', by rw [← hvs]; exact Array.toList_replicate, O'⟩ F')
theorem own_aastore (X : Stand p l e R s m args below meth c T locs cells slots) (hx : p.tables.exec = Jvm.exec) {B : ByteArray} (hby : c.code = B) {pc pc' : Nat} {Ls : Array Slot} {S : List Value} {j : Int32} {v w : Value} (hd : decode B pc = .ok (.aastore, 1)) (hp : pc + 1 = pc') (hZ : Z.Warmed39 s.vm) (eT : T.heap = h) (A : own_Ra Z h a C vs) (hj : ¬ j < 0) (hv : vs[j.toNatClampNeg]? = some w) (F : v = .null ∨ ∃ y, v = .ref y ∧ Ins Z h y C true)
    (g : ∀ (T' : State) (h' : Heap), Stand p l e R s m args below meth c T' (locs ++ [⟨a, j.toNatClampNeg⟩]) cells slots → T'.heap = h' → Wr h h' a j.toNatClampNeg v → own_Ra Z h' a C (vs.set j.toNatClampNeg v) → own_Go p.tables e below (T'.setTop (mkF m pc' Ls S)) RR) : own_Go p.tables e below (T.setTop (mkF m pc Ls (v :: .int j :: .ref a :: S))) RR := by
  subst hp
  have A0 := A
  obtain ⟨cl, Ar, r, o⟩ := A
  have q : cl.slots[j.toNatClampNeg]? = some w := by rw [← Array.getElem?_toList, r]; exact hv
  have hin : ¬ (j < 0 ∨ cl.slots.size ≤ j.toNatClampNeg) := by
    rintro (u | u)
    · exact hj u
    · rw [Array.getElem?_eq_none u] at q; cases q
  have F' : Sto Z h a v := by
    rcases F with rfl | ⟨y, rfl, I⟩
    · exact Or.inl rfl
    · exact Sto.of Ar o I
  obtain ⟨T', h', X', e', W', st⟩ := stR X hx hZ eT Ar (j := j) (v := v) hin rfl F' (g := mkF m pc Ls (v :: .int j :: .ref a :: S)) rfl rfl (hb hby hd)
  exact own_st st (g T' h' X' e' W' (A0.same W'))
theorem own_callI (X : Stand p l e R s m args below meth c T locs cells slots) (hx : p.tables.exec = Jvm.exec) (hZ : Z.Warmed39 s.vm) {xi y : MethodName} {bytes : ByteArray} {maxL : Nat} {rt : Option FieldType} {rm : Room} {as' : Array Value}
    (hM : own_Met l y bytes maxL rt [] rm as' Z h Q) {own C : String} {index count : Nat} (hown : s.vm.findClass own = some m.cls) (w1 : (Cond.methodLink own index xi).before a0 Z = true) (w2 : (Cond.declares xi).before a0 Z = true) (w2' : (Cond.interfaceMethod xi.cls xi.cls xi.name xi.desc).before a0 Z = true) (w3 : (Cond.selects C xi y).before a0 Z = true) (w4 : (Cond.instanceMethod y).before a0 Z = true) (w7 : (Cond.publicMethod y).before a0 Z = true) (w8 : (Cond.unhidden C xi.name xi.desc).before a0 Z = true) (w9 : (Cond.castable C xi.cls).before a0 Z = true) (w5 : (Cond.code y bytes maxL rt).before a0 Z = true) (w6 : (Cond.initialized y.cls).before a0 Z = true)
    (hy : xi.cls ≠ "java/lang/invoke/MethodHandle" ∧ xi.cls ≠ "java/lang/invoke/VarHandle") {a : Addr} (E : Exa Z h a C) {W : Nat} (hf : rm.frames + 1 ≤ R.frames) (hl : W + (maxL + 11) + rm.locals ≤ R.locals) {pc : Nat} {Ls : Array Slot} (hsz : Ls.size = c.maxLocals) {argsL rest st : List Value} (ha : (Value.ref a :: argsL).toArray = as')
    (hlen : ∀ sig, parseMethodDescriptor xi.desc = some sig → argsL.length = sig.parameters.length) (hst : st = argsL.reverse ++ .ref a :: rest) (hW : (rest.map fun v => v.category).sum ≤ W) (hd : decode c.code pc = .ok (.invokeinterface index count, 5)) (eT : T.heap = h) (hc : cells + rm.cells ≤ R.cells) (hs : slots + rm.slots ≤ R.slots)
    (k : ∀ (v : Option Value) (T' : State) (L : List Loc), Stand p l e R s m args below meth c T' (locs ++ L) (cells + rm.cells) (slots + rm.slots) → Q v T'.heap L → own_Go p.tables e below (T'.setTop (mkF m (pc + 5) Ls (v.toList ++ rest))) RR) :
    own_Go p.tables e below (T.setTop (mkF m pc Ls st)) RR := by
  subst ha
  obtain ⟨cB, kB, qa, qb, qc⟩ := isOf hZ eT E
  obtain ⟨v, _, ⟨T', L', k', n'⟩, -, X', ⟨Lc, hQ, l', y', z'⟩, stp⟩ := X.interfaceBack hx (xi := xi) (y := y) hown (mvT hZ w1) (mvT hZ w2) (mvT hZ w2' (by first | rfl | simp [Cond.onTables, Cond.keepsFace, Cond.keeps, Cond.steady, Cond.faceAtom, hy.1, hy.2])) (mvT hZ w3) (mvT hZ w4) (mvT hZ w7) (mvT hZ w8) (mvT hZ w9) hy (backOf (W := W) hM hZ w5 w6 hf hl) qa qb qc (g := mkF m pc Ls st) rfl hsz (Steps.refl _) (argsL := argsL) (rest := rest) hlen hst (by show 2 * 0 + _ ≤ _; omega) hd (fun _ _ => ⟨rfl, eT, hc, hs⟩)
  dsimp only [Pt.U, Pt.locs, Pt.cells, Pt.slots] at X' l' y' z' stp hQ
  subst l' y' z'
  exact own_st (fun t k => stp.trans k) (k v T' Lc X' hQ)
theorem own_callPv (X : Stand p l e R s m args below meth c T locs cells slots) (hx : p.tables.exec = Jvm.exec) (hZ : Z.Warmed39 s.vm) {y : MethodName} {bytes : ByteArray} {maxL : Nat} {rt : Option FieldType} {rm : Room} {as' : Array Value}
    (hM : own_Met l y bytes maxL rt [] rm as' Z h Q) {own C : String} {index : Nat} (hown : s.vm.findClass own = some m.cls) (w1 : (Cond.methodLink own index y).before a0 Z = true) (w2 : (Cond.privateMethod y).before a0 Z = true) (w3 : (Cond.selects y.cls y y).before a0 Z = true) (w4 : (Cond.instanceMethod y).before a0 Z = true) (w5 : (Cond.code y bytes maxL rt).before a0 Z = true) (w6 : (Cond.initialized y.cls).before a0 Z = true)
    (hy : y.cls ≠ "java/lang/invoke/MethodHandle" ∧ y.cls ≠ "java/lang/invoke/VarHandle") {a : Addr} (E : Exa Z h a C) {W : Nat} (hf : rm.frames + 1 ≤ R.frames) (hl : W + (maxL + 11) + rm.locals ≤ R.locals) {pc : Nat} {Ls : Array Slot} (hsz : Ls.size = c.maxLocals) {argsL rest st : List Value} (ha : (Value.ref a :: argsL).toArray = as')
    (hlen : ∀ sig, parseMethodDescriptor y.desc = some sig → argsL.length = sig.parameters.length) (hst : st = argsL.reverse ++ .ref a :: rest) (hW : (rest.map fun v => v.category).sum ≤ W) (hd : decode c.code pc = .ok (.invokevirtual index, 3)) (eT : T.heap = h) (hc : cells + rm.cells ≤ R.cells) (hs : slots + rm.slots ≤ R.slots)
    (k : ∀ (v : Option Value) (T' : State) (L : List Loc), Stand p l e R s m args below meth c T' (locs ++ L) (cells + rm.cells) (slots + rm.slots) → Q v T'.heap L → own_Go p.tables e below (T'.setTop (mkF m (pc + 3) Ls (v.toList ++ rest))) RR) :
    own_Go p.tables e below (T.setTop (mkF m pc Ls st)) RR := by
  subst ha
  obtain ⟨cell, q1, q2⟩ := E.cell
  obtain ⟨v, _, ⟨T', L', k', n'⟩, -, X', ⟨Lc, hQ, l', y', z'⟩, stp⟩ := X.privateBack hx (y := y) hown (mvT hZ w1) (mvT hZ w4) (mvT hZ w3) (Cond.privateMethod_at (args := #[]) (mvT hZ w2)) (mvT hZ w5) hy (backOf (W := W) hM hZ w5 w6 hf hl) (g := mkF m pc Ls st) rfl hsz (Steps.refl _) (a := a) (by rw [eT]; exact q1) q2 (argsL := argsL) (rest := rest) hlen hst (by show 2 * 0 + _ ≤ _; omega) hd (fun _ _ => ⟨rfl, eT, hc, hs⟩)
  dsimp only [Pt.U, Pt.locs, Pt.cells, Pt.slots] at X' l' y' z' stp hQ
  subst l' y' z'
  exact own_st (fun t k => stp.trans k) (k v T' Lc X' hQ)
end OwnRefs

theorem own_and {a b : Bool} (h : (a && b) = true) : a = true ∧ b = true := by simpa using h
/-! the same steps in few letters -/
section OwnShort
abbrev oJ (p : Program) (c : Code) (s : State) (m : MethodId) (meth : Method) (Z : State) (a0 : Array Value) (B : ByteArray) (ml : Nat) (own nm : String) (rt : Option FieldType) : Prop := p.tables.exec = Jvm.exec ∧ c.code = B ∧ c.maxLocals = ml ∧ s.vm.findClass own = some m.cls ∧ meth.name = nm ∧ meth.sig.returnType = rt ∧ meth.locks = false ∧ Z.Warmed39 s.vm ∧ (∀ d ∈ tables_1, d.before a0 Z = true)
abbrev oR (f c s l : Nat) : Room := { frames := f, cells := c, slots := s, locals := l }
abbrev sI (x : Int32) : Slot := .val (.int x)
abbrev sJ (x : Int64) : Slot := .val (.long x)
abbrev sR (a : Addr) : Slot := .val (.ref a)
abbrev sU : Slot := .unset
abbrev s2 : Slot := .second
theorem own_u {B : ByteArray} {L : List (Nat × Instr × Nat × Nat)} (h : ∀ z ∈ L, decode B z.1 = .ok (z.2.1, z.2.2.1) ∧ z.1 + z.2.2.1 = z.2.2.2) (i : Nat) {p k q : Nat} {n : Instr} (e : L[i]? = some (p, n, k, q)) : decode B p = .ok (n, k) ∧ p + k = q := by
  have t := h (p, n, k, q) (List.mem_of_getElem? e)
  dsimp only at t
  exact t
theorem o_ad {p : Prop} [Decidable p] {b : Bool} (h : (decide p && b) = true) : p ∧ b = true := by simpa using h
theorem o_body {l : Launch} {y : MethodName} {bytes : ByteArray} {maxL : Nat} {rt : Option FieldType} {ws : List Jvm.Cond} {rm : Room} {as' : Array Value} {Z : State} {a0 : Array Value} {h0 : Heap} {Q : Option Value → Heap → List Loc → Prop} {F : MethodId → JFrame} (hp : plainFor y = true) (hw : ∀ d ∈ tables_1, d.before a0 Z = true) (ef : ∀ m, entryFrame m as' maxL = F m)
    (hb : ∀ (p : Program) (e : Env) (s : State) (m : MethodId) (below : List Frame) (meth : Method) (c : Code) (T : State), Stand p l e rm s m as' below meth c T [] 0 0 → oJ p c s m meth Z a0 bytes maxL y.cls y.name rt → T.heap = h0 → own_Go p.tables e below (T.setTop (F m)) (own_R s Q rm.cells rm.slots)) : own_Met l y bytes maxL rt ws rm as' Z h0 Q :=
  own_body hp fun p e s m below meth c T X hx hby hml hown hnm hret hlk hZ e0 => own_st (fun t k => castTop (ef m) k) (hb p e s m below meth c T X ⟨hx, hby, hml, hown, hnm, hret, hlk, hZ, hw⟩ e0)
variable {p : Program} {l : Launch} {e : Env} {R : Room} {s : State} {m : MethodId} {args : Array Value} {below : List Frame} {meth : Method} {c : Code} {T : State} {locs : List Loc} {cells slots : Nat} {Z : State} {a0 : Array Value} {h : Heap} {Q : Option Value → Heap → List Loc → Prop} {RR : Outcome → State → Prop} {B : ByteArray} {ml : Nat} {own nm : String} {rt : Option FieldType} {pc pc' : Nat} {Ls : Array Slot} {S : List Value}

theorem o_iload (X : Stand p l e R s m args below meth c T locs cells slots) (j : oJ p c s m meth Z a0 B ml own nm rt) {k : Nat} {v : Int32} (hd : decode B pc = .ok (.iload k, 2) ∧ pc + 2 = pc') (hl : Ls[k]? = some (.val (.int v))) (g : own_Go p.tables e below (T.setTop (mkF m pc' Ls (.int v :: S))) RR) : own_Go p.tables e below (T.setTop (mkF m pc Ls S)) RR := own_iload X j.1 j.2.1 hd.1 hd.2 hl g
theorem o_iloadN (X : Stand p l e R s m args below meth c T locs cells slots) (j : oJ p c s m meth Z a0 B ml own nm rt) {k : Fin 4} {v : Int32} (hd : decode B pc = .ok (.iload_n k, 1) ∧ pc + 1 = pc') (hl : Ls[k.val]? = some (.val (.int v))) (g : own_Go p.tables e below (T.setTop (mkF m pc' Ls (.int v :: S))) RR) : own_Go p.tables e below (T.setTop (mkF m pc Ls S)) RR := own_iloadN X j.1 j.2.1 hd.1 hd.2 hl g
theorem o_lload (X : Stand p l e R s m args below meth c T locs cells slots) (j : oJ p c s m meth Z a0 B ml own nm rt) {k : Nat} {v : Int64} (hd : decode B pc = .ok (.lload k, 2) ∧ pc + 2 = pc') (hl : Ls[k]? = some (.val (.long v))) (g : own_Go p.tables e below (T.setTop (mkF m pc' Ls (.long v :: S))) RR) : own_Go p.tables e below (T.setTop (mkF m pc Ls S)) RR := own_lload X j.1 j.2.1 hd.1 hd.2 hl g
theorem o_lloadN (X : Stand p l e R s m args below meth c T locs cells slots) (j : oJ p c s m meth Z a0 B ml own nm rt) {k : Fin 4} {v : Int64} (hd : decode B pc = .ok (.lload_n k, 1) ∧ pc + 1 = pc') (hl : Ls[k.val]? = some (.val (.long v))) (g : own_Go p.tables e below (T.setTop (mkF m pc' Ls (.long v :: S))) RR) : own_Go p.tables e below (T.setTop (mkF m pc Ls S)) RR := own_lloadN X j.1 j.2.1 hd.1 hd.2 hl g
theorem o_istore (X : Stand p l e R s m args below meth c T locs cells slots) (j : oJ p c s m meth Z a0 B ml own nm rt) {k : Nat} {v : Int32} {Ls' : Array Slot} (hd : decode B pc = .ok (.istore k, 2) ∧ pc + 2 = pc') (hl : storeLocals Ls k (.int v) = some Ls') (g : own_Go p.tables e below (T.setTop (mkF m pc' Ls' S)) RR) : own_Go p.tables e below (T.setTop (mkF m pc Ls (.int v :: S))) RR := own_istore X j.1 j.2.1 hd.1 hd.2 hl g
theorem o_istoreN (X : Stand p l e R s m args below meth c T locs cells slots) (j : oJ p c s m meth Z a0 B ml own nm rt) {k : Fin 4} {v : Int32} {Ls' : Array Slot} (hd : decode B pc = .ok (.istore_n k, 1) ∧ pc + 1 = pc') (hl : storeLocals Ls k.val (.int v) = some Ls') (g : own_Go p.tables e below (T.setTop (mkF m pc' Ls' S)) RR) : own_Go p.tables e below (T.setTop (mkF m pc Ls (.int v :: S))) RR := own_istoreN X j.1 j.2.1 hd.1 hd.2 hl g
theorem o_lstore (X : Stand p l e R s m args below meth c T locs cells slots) (j : oJ p c s m meth Z a0 B ml own nm rt) {k : Nat} {v : Int64} {Ls' : Array Slot} (hd : decode B pc = .ok (.lstore k, 2) ∧ pc + 2 = pc') (hl : storeLocals Ls k (.long v) = some Ls') (g : own_Go p.tables e below (T.setTop (mkF m pc' Ls' S)) RR) : own_Go p.tables e below (T.setTop (mkF m pc Ls (.long v :: S))) RR := own_lstore X j.1 j.2.1 hd.1 hd.2 hl g
theorem o_lstoreN (X : Stand p l e R s m args below meth c T locs cells slots) (j : oJ p c s m meth Z a0 B ml own nm rt) {k : Fin 4} {v : Int64} {Ls' : Array Slot} (hd : decode B pc = .ok (.lstore_n k, 1) ∧ pc + 1 = pc') (hl : storeLocals Ls k.val (.long v) = some Ls') (g : own_Go p.tables e below (T.setTop (mkF m pc' Ls' S)) RR) : own_Go p.tables e below (T.setTop (mkF m pc Ls (.long v :: S))) RR := own_lstoreN X j.1 j.2.1 hd.1 hd.2 hl g
theorem o_astore (X : Stand p l e R s m args below meth c T locs cells slots) (j : oJ p c s m meth Z a0 B ml own nm rt) {k : Nat} {v : Value} {Ls' : Array Slot} (hd : decode B pc = .ok (.astore k, 2) ∧ pc + 2 = pc') (hv : v.isRef = true) (hl : storeLocals Ls k v = some Ls') (g : own_Go p.tables e below (T.setTop (mkF m pc' Ls' S)) RR) : own_Go p.tables e below (T.setTop (mkF m pc Ls (v :: S))) RR := own_astore X j.1 j.2.1 hd.1 hd.2 hv hl g
theorem o_astoreN (X : Stand p l e R s m args below meth c T locs cells slots) (j : oJ p c s m meth Z a0 B ml own nm rt) {k : Fin 4} {v : Value} {Ls' : Array Slot} (hd : decode B pc = .ok (.astore_n k, 1) ∧ pc + 1 = pc') (hv : v.isRef = true) (hl : storeLocals Ls k.val v = some Ls') (g : own_Go p.tables e below (T.setTop (mkF m pc' Ls' S)) RR) : own_Go p.tables e below (T.setTop (mkF m pc Ls (v :: S))) RR := own_astoreN X j.1 j.2.1 hd.1 hd.2 hv hl g
theorem o_iconstL (X : Stand p l e R s m args below meth c T locs cells slots) (j : oJ p c s m meth Z a0 B ml own nm rt) {i : Int} (hd : decode B pc = .ok (.iconst i, 1) ∧ pc + 1 = pc') (z : Int32) (g : own_Go p.tables e below (T.setTop (mkF m pc' Ls (.int z :: S))) RR) (hz : Int32.ofInt i = z := by decide) : own_Go p.tables e below (T.setTop (mkF m pc Ls S)) RR := own_iconst X j.1 j.2.1 hd.1 hd.2 hz g
theorem o_bipushL (X : Stand p l e R s m args below meth c T locs cells slots) (j : oJ p c s m meth Z a0 B ml own nm rt) {i : Int} (hd : decode B pc = .ok (.bipush i, 2) ∧ pc + 2 = pc') (z : Int32) (g : own_Go p.tables e below (T.setTop (mkF m pc' Ls (.int z :: S))) RR) (hz : (Int8.ofInt i).toInt32 = z := by decide) : own_Go p.tables e below (T.setTop (mkF m pc Ls S)) RR := own_bipush X j.1 j.2.1 hd.1 hd.2 hz g
theorem o_sipushL (X : Stand p l e R s m args below meth c T locs cells slots) (j : oJ p c s m meth Z a0 B ml own nm rt) {i : Int} (hd : decode B pc = .ok (.sipush i, 3) ∧ pc + 3 = pc') (z : Int32) (g : own_Go p.tables e below (T.setTop (mkF m pc' Ls (.int z :: S))) RR) (hz : (Int16.ofInt i).toInt32 = z := by decide) : own_Go p.tables e below (T.setTop (mkF m pc Ls S)) RR := own_sipush X j.1 j.2.1 hd.1 hd.2 hz g
theorem o_lconstL (X : Stand p l e R s m args below meth c T locs cells slots) (j : oJ p c s m meth Z a0 B ml own nm rt) {k : Fin 2} (hd : decode B pc = .ok (.lconst k, 1) ∧ pc + 1 = pc') (z : Int64) (g : own_Go p.tables e below (T.setTop (mkF m pc' Ls (.long z :: S))) RR) (hz : Int64.ofNat k = z := by decide) : own_Go p.tables e below (T.setTop (mkF m pc Ls S)) RR := own_lconst X j.1 j.2.1 hd.1 hd.2 hz g
theorem o_aconst_null (X : Stand p l e R s m args below meth c T locs cells slots) (j : oJ p c s m meth Z a0 B ml own nm rt)  (hd : decode B pc = .ok (.aconst_null, 1) ∧ pc + 1 = pc')  (g : own_Go p.tables e below (T.setTop (mkF m pc' Ls (.null :: S))) RR) : own_Go p.tables e below (T.setTop (mkF m pc Ls S)) RR := own_aconst_null X j.1 j.2.1 hd.1 hd.2  g
theorem o_iadd (X : Stand p l e R s m args below meth c T locs cells slots) (j : oJ p c s m meth Z a0 B ml own nm rt) {x y : Int32} (hd : decode B pc = .ok (.iadd, 1) ∧ pc + 1 = pc')  (g : own_Go p.tables e below (T.setTop (mkF m pc' Ls (.int (x + y) :: S))) RR) : own_Go p.tables e below (T.setTop (mkF m pc Ls (.int y :: .int x :: S))) RR := own_iadd X j.1 j.2.1 hd.1 hd.2 rfl g
theorem o_iaddL (X : Stand p l e R s m args below meth c T locs cells slots) (j : oJ p c s m meth Z a0 B ml own nm rt) {x y : Int32} (hd : decode B pc = .ok (.iadd, 1) ∧ pc + 1 = pc') (z : Int32) (g : own_Go p.tables e below (T.setTop (mkF m pc' Ls (.int z :: S))) RR) (hz : x + y = z := by decide) : own_Go p.tables e below (T.setTop (mkF m pc Ls (.int y :: .int x :: S))) RR := own_iadd X j.1 j.2.1 hd.1 hd.2 hz g
theorem o_isub (X : Stand p l e R s m args below meth c T locs cells slots) (j : oJ p c s m meth Z a0 B ml own nm rt) {x y : Int32} (hd : decode B pc = .ok (.isub, 1) ∧ pc + 1 = pc')  (g : own_Go p.tables e below (T.setTop (mkF m pc' Ls (.int (x - y) :: S))) RR) : own_Go p.tables e below (T.setTop (mkF m pc Ls (.int y :: .int x :: S))) RR := own_isub X j.1 j.2.1 hd.1 hd.2 rfl g
theorem o_isubL (X : Stand p l e R s m args below meth c T locs cells slots) (j : oJ p c s m meth Z a0 B ml own nm rt) {x y : Int32} (hd : decode B pc = .ok (.isub, 1) ∧ pc + 1 = pc') (z : Int32) (g : own_Go p.tables e below (T.setTop (mkF m pc' Ls (.int z :: S))) RR) (hz : x - y = z := by decide) : own_Go p.tables e below (T.setTop (mkF m pc Ls (.int y :: .int x :: S))) RR := own_isub X j.1 j.2.1 hd.1 hd.2 hz g
theorem o_ladd (X : Stand p l e R s m args below meth c T locs cells slots) (j : oJ p c s m meth Z a0 B ml own nm rt) {x y : Int64} (hd : decode B pc = .ok (.ladd, 1) ∧ pc + 1 = pc')  (g : own_Go p.tables e below (T.setTop (mkF m pc' Ls (.long (x + y) :: S))) RR) : own_Go p.tables e below (T.setTop (mkF m pc Ls (.long y :: .long x :: S))) RR := own_ladd X j.1 j.2.1 hd.1 hd.2 rfl g
theorem o_laddL (X : Stand p l e R s m args below meth c T locs cells slots) (j : oJ p c s m meth Z a0 B ml own nm rt) {x y : Int64} (hd : decode B pc = .ok (.ladd, 1) ∧ pc + 1 = pc') (z : Int64) (g : own_Go p.tables e below (T.setTop (mkF m pc' Ls (.long z :: S))) RR) (hz : x + y = z := by decide) : own_Go p.tables e below (T.setTop (mkF m pc Ls (.long y :: .long x :: S))) RR := own_ladd X j.1 j.2.1 hd.1 hd.2 hz g
theorem o_lsub (X : Stand p l e R s m args below meth c T locs cells slots) (j : oJ p c s m meth Z a0 B ml own nm rt) {x y : Int64} (hd : decode B pc = .ok (.lsub, 1) ∧ pc + 1 = pc')  (g : own_Go p.tables e below (T.setTop (mkF m pc' Ls (.long (x - y) :: S))) RR) : own_Go p.tables e below (T.setTop (mkF m pc Ls (.long y :: .long x :: S))) RR := own_lsub X j.1 j.2.1 hd.1 hd.2 rfl g
theorem o_lsubL (X : Stand p l e R s m args below meth c T locs cells slots) (j : oJ p c s m meth Z a0 B ml own nm rt) {x y : Int64} (hd : decode B pc = .ok (.lsub, 1) ∧ pc + 1 = pc') (z : Int64) (g : own_Go p.tables e below (T.setTop (mkF m pc' Ls (.long z :: S))) RR) (hz : x - y = z := by decide) : own_Go p.tables e below (T.setTop (mkF m pc Ls (.long y :: .long x :: S))) RR := own_lsub X j.1 j.2.1 hd.1 hd.2 hz g
theorem o_lmul (X : Stand p l e R s m args below meth c T locs cells slots) (j : oJ p c s m meth Z a0 B ml own nm rt) {x y : Int64} (hd : decode B pc = .ok (.lmul, 1) ∧ pc + 1 = pc')  (g : own_Go p.tables e below (T.setTop (mkF m pc' Ls (.long (x * y) :: S))) RR) : own_Go p.tables e below (T.setTop (mkF m pc Ls (.long y :: .long x :: S))) RR := own_lmul X j.1 j.2.1 hd.1 hd.2 rfl g
theorem o_lmulL (X : Stand p l e R s m args below meth c T locs cells slots) (j : oJ p c s m meth Z a0 B ml own nm rt) {x y : Int64} (hd : decode B pc = .ok (.lmul, 1) ∧ pc + 1 = pc') (z : Int64) (g : own_Go p.tables e below (T.setTop (mkF m pc' Ls (.long z :: S))) RR) (hz : x * y = z := by decide) : own_Go p.tables e below (T.setTop (mkF m pc Ls (.long y :: .long x :: S))) RR := own_lmul X j.1 j.2.1 hd.1 hd.2 hz g
theorem o_land (X : Stand p l e R s m args below meth c T locs cells slots) (j : oJ p c s m meth Z a0 B ml own nm rt) {x y : Int64} (hd : decode B pc = .ok (.land, 1) ∧ pc + 1 = pc')  (g : own_Go p.tables e below (T.setTop (mkF m pc' Ls (.long (x &&& y) :: S))) RR) : own_Go p.tables e below (T.setTop (mkF m pc Ls (.long y :: .long x :: S))) RR := own_land X j.1 j.2.1 hd.1 hd.2 rfl g
theorem o_landL (X : Stand p l e R s m args below meth c T locs cells slots) (j : oJ p c s m meth Z a0 B ml own nm rt) {x y : Int64} (hd : decode B pc = .ok (.land, 1) ∧ pc + 1 = pc') (z : Int64) (g : own_Go p.tables e below (T.setTop (mkF m pc' Ls (.long z :: S))) RR) (hz : x &&& y = z := by decide) : own_Go p.tables e below (T.setTop (mkF m pc Ls (.long y :: .long x :: S))) RR := own_land X j.1 j.2.1 hd.1 hd.2 hz g
theorem o_lor (X : Stand p l e R s m args below meth c T locs cells slots) (j : oJ p c s m meth Z a0 B ml own nm rt) {x y : Int64} (hd : decode B pc = .ok (.lor, 1) ∧ pc + 1 = pc')  (g : own_Go p.tables e below (T.setTop (mkF m pc' Ls (.long (x ||| y) :: S))) RR) : own_Go p.tables e below (T.setTop (mkF m pc Ls (.long y :: .long x :: S))) RR := own_lor X j.1 j.2.1 hd.1 hd.2 rfl g
theorem o_lxor (X : Stand p l e R s m args below meth c T locs cells slots) (j : oJ p c s m meth Z a0 B ml own nm rt) {x y : Int64} (hd : decode B pc = .ok (.lxor, 1) ∧ pc + 1 = pc')  (g : own_Go p.tables e below (T.setTop (mkF m pc' Ls (.long (x ^^^ y) :: S))) RR) : own_Go p.tables e below (T.setTop (mkF m pc Ls (.long y :: .long x :: S))) RR := own_lxor X j.1 j.2.1 hd.1 hd.2 rfl g
theorem o_lxorL (X : Stand p l e R s m args below meth c T locs cells slots) (j : oJ p c s m meth Z a0 B ml own nm rt) {x y : Int64} (hd : decode B pc = .ok (.lxor, 1) ∧ pc + 1 = pc') (z : Int64) (g : own_Go p.tables e below (T.setTop (mkF m pc' Ls (.long z :: S))) RR) (hz : x ^^^ y = z := by decide) : own_Go p.tables e below (T.setTop (mkF m pc Ls (.long y :: .long x :: S))) RR := own_lxor X j.1 j.2.1 hd.1 hd.2 hz g
theorem o_ishlL (X : Stand p l e R s m args below meth c T locs cells slots) (j : oJ p c s m meth Z a0 B ml own nm rt) {x y : Int32} (hd : decode B pc = .ok (.ishl, 1) ∧ pc + 1 = pc') (z : Int32) (g : own_Go p.tables e below (T.setTop (mkF m pc' Ls (.int z :: S))) RR) (hz : x <<< (y &&& 31) = z := by decide) : own_Go p.tables e below (T.setTop (mkF m pc Ls (.int y :: .int x :: S))) RR := own_ishl X j.1 j.2.1 hd.1 hd.2 hz g
theorem o_iushr (X : Stand p l e R s m args below meth c T locs cells slots) (j : oJ p c s m meth Z a0 B ml own nm rt) {x y : Int32} (hd : decode B pc = .ok (.iushr, 1) ∧ pc + 1 = pc')  (g : own_Go p.tables e below (T.setTop (mkF m pc' Ls (.int ((x.toUInt32 >>> (y &&& 31).toUInt32).toInt32) :: S))) RR) : own_Go p.tables e below (T.setTop (mkF m pc Ls (.int y :: .int x :: S))) RR := own_iushr X j.1 j.2.1 hd.1 hd.2 rfl g
theorem o_lshl (X : Stand p l e R s m args below meth c T locs cells slots) (j : oJ p c s m meth Z a0 B ml own nm rt) {x : Int64} {y : Int32} (hd : decode B pc = .ok (.lshl, 1) ∧ pc + 1 = pc')  (g : own_Go p.tables e below (T.setTop (mkF m pc' Ls (.long (x <<< (y &&& 0x3f).toInt64) :: S))) RR) : own_Go p.tables e below (T.setTop (mkF m pc Ls (.int y :: .long x :: S))) RR := own_lshl X j.1 j.2.1 hd.1 hd.2 rfl g
theorem o_lshlL (X : Stand p l e R s m args below meth c T locs cells slots) (j : oJ p c s m meth Z a0 B ml own nm rt) {x : Int64} {y : Int32} (hd : decode B pc = .ok (.lshl, 1) ∧ pc + 1 = pc') (z : Int64) (g : own_Go p.tables e below (T.setTop (mkF m pc' Ls (.long z :: S))) RR) (hz : x <<< (y &&& 0x3f).toInt64 = z := by decide) : own_Go p.tables e below (T.setTop (mkF m pc Ls (.int y :: .long x :: S))) RR := own_lshl X j.1 j.2.1 hd.1 hd.2 hz g
theorem o_lushr (X : Stand p l e R s m args below meth c T locs cells slots) (j : oJ p c s m meth Z a0 B ml own nm rt) {x : Int64} {y : Int32} (hd : decode B pc = .ok (.lushr, 1) ∧ pc + 1 = pc')  (g : own_Go p.tables e below (T.setTop (mkF m pc' Ls (.long ((x.toUInt64 >>> (y &&& 0x3f).toInt64.toUInt64).toInt64) :: S))) RR) : own_Go p.tables e below (T.setTop (mkF m pc Ls (.int y :: .long x :: S))) RR := own_lushr X j.1 j.2.1 hd.1 hd.2 rfl g
theorem o_lushrL (X : Stand p l e R s m args below meth c T locs cells slots) (j : oJ p c s m meth Z a0 B ml own nm rt) {x : Int64} {y : Int32} (hd : decode B pc = .ok (.lushr, 1) ∧ pc + 1 = pc') (z : Int64) (g : own_Go p.tables e below (T.setTop (mkF m pc' Ls (.long z :: S))) RR) (hz : (x.toUInt64 >>> (y &&& 0x3f).toInt64.toUInt64).toInt64 = z := by decide) : own_Go p.tables e below (T.setTop (mkF m pc Ls (.int y :: .long x :: S))) RR := own_lushr X j.1 j.2.1 hd.1 hd.2 hz g
theorem o_lnegL (X : Stand p l e R s m args below meth c T locs cells slots) (j : oJ p c s m meth Z a0 B ml own nm rt) {x : Int64} (hd : decode B pc = .ok (.lneg, 1) ∧ pc + 1 = pc') (z : Int64) (g : own_Go p.tables e below (T.setTop (mkF m pc' Ls (.long z :: S))) RR) (hz : -x = z := by decide) : own_Go p.tables e below (T.setTop (mkF m pc Ls (.long x :: S))) RR := own_lneg X j.1 j.2.1 hd.1 hd.2 hz g
theorem o_i2l (X : Stand p l e R s m args below meth c T locs cells slots) (j : oJ p c s m meth Z a0 B ml own nm rt) {x : Int32} (hd : decode B pc = .ok (.i2l, 1) ∧ pc + 1 = pc')  (g : own_Go p.tables e below (T.setTop (mkF m pc' Ls (.long (x.toInt64) :: S))) RR) : own_Go p.tables e below (T.setTop (mkF m pc Ls (.int x :: S))) RR := own_i2l X j.1 j.2.1 hd.1 hd.2 rfl g
theorem o_i2lL (X : Stand p l e R s m args below meth c T locs cells slots) (j : oJ p c s m meth Z a0 B ml own nm rt) {x : Int32} (hd : decode B pc = .ok (.i2l, 1) ∧ pc + 1 = pc') (z : Int64) (g : own_Go p.tables e below (T.setTop (mkF m pc' Ls (.long z :: S))) RR) (hz : x.toInt64 = z := by decide) : own_Go p.tables e below (T.setTop (mkF m pc Ls (.int x :: S))) RR := own_i2l X j.1 j.2.1 hd.1 hd.2 hz g
theorem o_l2i (X : Stand p l e R s m args below meth c T locs cells slots) (j : oJ p c s m meth Z a0 B ml own nm rt) {x : Int64} (hd : decode B pc = .ok (.l2i, 1) ∧ pc + 1 = pc')  (g : own_Go p.tables e below (T.setTop (mkF m pc' Ls (.int (x.toInt32) :: S))) RR) : own_Go p.tables e below (T.setTop (mkF m pc Ls (.long x :: S))) RR := own_l2i X j.1 j.2.1 hd.1 hd.2 rfl g
theorem o_l2iL (X : Stand p l e R s m args below meth c T locs cells slots) (j : oJ p c s m meth Z a0 B ml own nm rt) {x : Int64} (hd : decode B pc = .ok (.l2i, 1) ∧ pc + 1 = pc') (z : Int32) (g : own_Go p.tables e below (T.setTop (mkF m pc' Ls (.int z :: S))) RR) (hz : x.toInt32 = z := by decide) : own_Go p.tables e below (T.setTop (mkF m pc Ls (.long x :: S))) RR := own_l2i X j.1 j.2.1 hd.1 hd.2 hz g
theorem o_ldiv (X : Stand p l e R s m args below meth c T locs cells slots) (j : oJ p c s m meth Z a0 B ml own nm rt) {x y : Int64} (hd : decode B pc = .ok (.ldiv, 1) ∧ pc + 1 = pc') (hy : y ≠ 0) (g : own_Go p.tables e below (T.setTop (mkF m pc' Ls (.long (x / y) :: S))) RR) : own_Go p.tables e below (T.setTop (mkF m pc Ls (.long y :: .long x :: S))) RR := own_ldiv X j.1 j.2.1 hd.1 hd.2 hy rfl g
theorem o_ldivL (X : Stand p l e R s m args below meth c T locs cells slots) (j : oJ p c s m meth Z a0 B ml own nm rt) {x y : Int64} (hd : decode B pc = .ok (.ldiv, 1) ∧ pc + 1 = pc') (z : Int64) (g : own_Go p.tables e below (T.setTop (mkF m pc' Ls (.long z :: S))) RR) (hy : y ≠ 0 := by decide) (hz : x / y = z := by decide) : own_Go p.tables e below (T.setTop (mkF m pc Ls (.long y :: .long x :: S))) RR := own_ldiv X j.1 j.2.1 hd.1 hd.2 hy hz g
theorem o_irem (X : Stand p l e R s m args below meth c T locs cells slots) (j : oJ p c s m meth Z a0 B ml own nm rt) {x y : Int32} (hd : decode B pc = .ok (.irem, 1) ∧ pc + 1 = pc') (hy : y ≠ 0) (g : own_Go p.tables e below (T.setTop (mkF m pc' Ls (.int (x - (x / y) * y) :: S))) RR) : own_Go p.tables e below (T.setTop (mkF m pc Ls (.int y :: .int x :: S))) RR := own_irem X j.1 j.2.1 hd.1 hd.2 hy rfl g
theorem o_lremL (X : Stand p l e R s m args below meth c T locs cells slots) (j : oJ p c s m meth Z a0 B ml own nm rt) {x y : Int64} (hd : decode B pc = .ok (.lrem, 1) ∧ pc + 1 = pc') (z : Int64) (g : own_Go p.tables e below (T.setTop (mkF m pc' Ls (.long z :: S))) RR) (hy : y ≠ 0 := by decide) (hz : x - (x / y) * y = z := by decide) : own_Go p.tables e below (T.setTop (mkF m pc Ls (.long y :: .long x :: S))) RR := own_lrem X j.1 j.2.1 hd.1 hd.2 hy hz g
theorem o_lcmp (X : Stand p l e R s m args below meth c T locs cells slots) (j : oJ p c s m meth Z a0 B ml own nm rt) {x y : Int64} (hd : decode B pc = .ok (.lcmp, 1) ∧ pc + 1 = pc')  (g : own_Go p.tables e below (T.setTop (mkF m pc' Ls (.int (lcmpW x y) :: S))) RR) : own_Go p.tables e below (T.setTop (mkF m pc Ls (.long y :: .long x :: S))) RR := own_lcmp X j.1 j.2.1 hd.1 hd.2  g
theorem o_iinc (X : Stand p l e R s m args below meth c T locs cells slots) (j : oJ p c s m meth Z a0 B ml own nm rt) {k : Nat} {cst : Int} {x z : Int32} {Ls' : Array Slot} (hd : decode B pc = .ok (.iinc k cst, 3) ∧ pc + 3 = pc') (hl : Ls[k]? = some (.val (.int x))) (hz : x + Int32.ofInt cst = z) (hl' : storeLocals Ls k (.int z) = some Ls') (g : own_Go p.tables e below (T.setTop (mkF m pc' Ls' S)) RR) : own_Go p.tables e below (T.setTop (mkF m pc Ls S)) RR := own_iinc X j.1 j.2.1 hd.1 hd.2 hl hz hl' g
theorem o_dup (X : Stand p l e R s m args below meth c T locs cells slots) (j : oJ p c s m meth Z a0 B ml own nm rt) {x : Value} (hd : decode B pc = .ok (.dup, 1) ∧ pc + 1 = pc') (hc : x.category = 1) (g : own_Go p.tables e below (T.setTop (mkF m pc' Ls (x :: x :: S))) RR) : own_Go p.tables e below (T.setTop (mkF m pc Ls (x :: S))) RR := own_dup X j.1 j.2.1 hd.1 hd.2 hc g
theorem o_dup_x1 (X : Stand p l e R s m args below meth c T locs cells slots) (j : oJ p c s m meth Z a0 B ml own nm rt) {x y : Value} (hd : decode B pc = .ok (.dup_x1, 1) ∧ pc + 1 = pc') (hc : x.category = 1) (hc' : y.category = 1) (g : own_Go p.tables e below (T.setTop (mkF m pc' Ls (x :: y :: x :: S))) RR) : own_Go p.tables e below (T.setTop (mkF m pc Ls (x :: y :: S))) RR := own_dup_x1 X j.1 j.2.1 hd.1 hd.2 hc hc' g
theorem o_ifNo (X : Stand p l e R s m args below meth c T locs cells slots) (j : oJ p c s m meth Z a0 B ml own nm rt) {cd : ClassFile.Cond} {o : Int} {x : Int32} (hd : decode B pc = .ok (.ifCond cd o, 3) ∧ pc + 3 = pc') (hc : if_icmp.holds cd x 0 = false) (g : own_Go p.tables e below (T.setTop (mkF m pc' Ls S)) RR) : own_Go p.tables e below (T.setTop (mkF m pc Ls (.int x :: S))) RR := own_ifNo X j.1 j.2.1 hd.1 hd.2 hc g
theorem o_ifNoD (X : Stand p l e R s m args below meth c T locs cells slots) (j : oJ p c s m meth Z a0 B ml own nm rt) {cd : ClassFile.Cond} {o : Int} {x : Int32} (hd : decode B pc = .ok (.ifCond cd o, 3) ∧ pc + 3 = pc') (g : own_Go p.tables e below (T.setTop (mkF m pc' Ls S)) RR) (hc : if_icmp.holds cd x 0 = false := by decide) : own_Go p.tables e below (T.setTop (mkF m pc Ls (.int x :: S))) RR := own_ifNo X j.1 j.2.1 hd.1 hd.2 hc g
theorem o_icmpNo (X : Stand p l e R s m args below meth c T locs cells slots) (j : oJ p c s m meth Z a0 B ml own nm rt) {cd : ClassFile.Cond} {o : Int} {x y : Int32} (hd : decode B pc = .ok (.if_icmp cd o, 3) ∧ pc + 3 = pc') (hc : if_icmp.holds cd x y = false) (g : own_Go p.tables e below (T.setTop (mkF m pc' Ls S)) RR) : own_Go p.tables e below (T.setTop (mkF m pc Ls (.int y :: .int x :: S))) RR := own_icmpNo X j.1 j.2.1 hd.1 hd.2 hc g
theorem o_icmpNoD (X : Stand p l e R s m args below meth c T locs cells slots) (j : oJ p c s m meth Z a0 B ml own nm rt) {cd : ClassFile.Cond} {o : Int} {x y : Int32} (hd : decode B pc = .ok (.if_icmp cd o, 3) ∧ pc + 3 = pc') (g : own_Go p.tables e below (T.setTop (mkF m pc' Ls S)) RR) (hc : if_icmp.holds cd x y = false := by decide) : own_Go p.tables e below (T.setTop (mkF m pc Ls (.int y :: .int x :: S))) RR := own_icmpNo X j.1 j.2.1 hd.1 hd.2 hc g
theorem o_ifnonnullNo (X : Stand p l e R s m args below meth c T locs cells slots) (j : oJ p c s m meth Z a0 B ml own nm rt) {o : Int} (hd : decode B pc = .ok (.ifnonnull o, 3) ∧ pc + 3 = pc')  (g : own_Go p.tables e below (T.setTop (mkF m pc' Ls S)) RR) : own_Go p.tables e below (T.setTop (mkF m pc Ls (.null :: S))) RR := own_ifnonnullNo X j.1 j.2.1 hd.1 hd.2  g
theorem o_aload (X : Stand p l e R s m args below meth c T locs cells slots) (j : oJ p c s m meth Z a0 B ml own nm rt) {k : Nat} {v : Value} (hd : decode B pc = .ok (.aload k, 2) ∧ pc + 2 = pc') (hl : Ls[k]? = some (.val v)) (hv : v.isRef = true) (g : own_Go p.tables e below (T.setTop (mkF m pc' Ls (v :: S))) RR) : own_Go p.tables e below (T.setTop (mkF m pc Ls S)) RR := own_aload X j.1 j.2.1 hd.1 hd.2 hl hv g
theorem o_aloadN (X : Stand p l e R s m args below meth c T locs cells slots) (j : oJ p c s m meth Z a0 B ml own nm rt) {k : Fin 4} {v : Value} (hd : decode B pc = .ok (.aload_n k, 1) ∧ pc + 1 = pc') (hl : Ls[k.val]? = some (.val v)) (hv : v.isRef = true) (g : own_Go p.tables e below (T.setTop (mkF m pc' Ls (v :: S))) RR) : own_Go p.tables e below (T.setTop (mkF m pc Ls S)) RR := own_aloadN X j.1 j.2.1 hd.1 hd.2 hl hv g
theorem o_goto (X : Stand p l e R s m args below meth c T locs cells slots) (j : oJ p c s m meth Z a0 B ml own nm rt) {o : Int} {q : Nat} (hd : decode B pc = .ok (.goto o, 3) ∧ pc + 3 = q) (pc' : Nat)  (g : own_Go p.tables e below (T.setTop (mkF m pc' Ls S)) RR) (hp : 0 ≤ (pc : Int) + o ∧ ((pc : Int) + o).toNat = pc' := by decide) : own_Go p.tables e below (T.setTop (mkF m pc Ls S)) RR := own_goto X j.1 j.2.1 hd.1 hp  g
theorem o_ifYes (X : Stand p l e R s m args below meth c T locs cells slots) (j : oJ p c s m meth Z a0 B ml own nm rt) {cd : ClassFile.Cond} {x : Int32} {o : Int} {q : Nat} (hd : decode B pc = .ok (.ifCond cd o, 3) ∧ pc + 3 = q) (pc' : Nat) (hc : if_icmp.holds cd x 0 = true) (g : own_Go p.tables e below (T.setTop (mkF m pc' Ls S)) RR) (hp : 0 ≤ (pc : Int) + o ∧ ((pc : Int) + o).toNat = pc' := by decide) : own_Go p.tables e below (T.setTop (mkF m pc Ls (.int x :: S))) RR := own_ifYes X j.1 j.2.1 hd.1 hp hc g
theorem o_ifYesD (X : Stand p l e R s m args below meth c T locs cells slots) (j : oJ p c s m meth Z a0 B ml own nm rt) {cd : ClassFile.Cond} {x : Int32} {o : Int} {q : Nat} (hd : decode B pc = .ok (.ifCond cd o, 3) ∧ pc + 3 = q) (pc' : Nat) (g : own_Go p.tables e below (T.setTop (mkF m pc' Ls S)) RR) (hp : 0 ≤ (pc : Int) + o ∧ ((pc : Int) + o).toNat = pc' := by decide) (hc : if_icmp.holds cd x 0 = true := by decide) : own_Go p.tables e below (T.setTop (mkF m pc Ls (.int x :: S))) RR := own_ifYes X j.1 j.2.1 hd.1 hp hc g
theorem o_icmpYes (X : Stand p l e R s m args below meth c T locs cells slots) (j : oJ p c s m meth Z a0 B ml own nm rt) {cd : ClassFile.Cond} {x y : Int32} {o : Int} {q : Nat} (hd : decode B pc = .ok (.if_icmp cd o, 3) ∧ pc + 3 = q) (pc' : Nat) (hc : if_icmp.holds cd x y = true) (g : own_Go p.tables e below (T.setTop (mkF m pc' Ls S)) RR) (hp : 0 ≤ (pc : Int) + o ∧ ((pc : Int) + o).toNat = pc' := by decide) : own_Go p.tables e below (T.setTop (mkF m pc Ls (.int y :: .int x :: S))) RR := own_icmpYes X j.1 j.2.1 hd.1 hp hc g
theorem o_icmpYesD (X : Stand p l e R s m args below meth c T locs cells slots) (j : oJ p c s m meth Z a0 B ml own nm rt) {cd : ClassFile.Cond} {x y : Int32} {o : Int} {q : Nat} (hd : decode B pc = .ok (.if_icmp cd o, 3) ∧ pc + 3 = q) (pc' : Nat) (g : own_Go p.tables e below (T.setTop (mkF m pc' Ls S)) RR) (hp : 0 ≤ (pc : Int) + o ∧ ((pc : Int) + o).toNat = pc' := by decide) (hc : if_icmp.holds cd x y = true := by decide) : own_Go p.tables e below (T.setTop (mkF m pc Ls (.int y :: .int x :: S))) RR := own_icmpYes X j.1 j.2.1 hd.1 hp hc g
theorem o_ifnonnullYes (X : Stand p l e R s m args below meth c T locs cells slots) (j : oJ p c s m meth Z a0 B ml own nm rt) {b : Addr} {o : Int} {q : Nat} (hd : decode B pc = .ok (.ifnonnull o, 3) ∧ pc + 3 = q) (pc' : Nat)  (g : own_Go p.tables e below (T.setTop (mkF m pc' Ls S)) RR) (hp : 0 ≤ (pc : Int) + o ∧ ((pc : Int) + o).toNat = pc' := by decide) : own_Go p.tables e below (T.setTop (mkF m pc Ls (.ref b :: S))) RR := own_ifnonnullYes X j.1 j.2.1 hd.1 hp  g
theorem o_ldc (X : Stand p l e R s m args below meth c T locs cells slots) (j : oJ p c s m meth Z a0 B ml own nm rt) {index : Nat} {v : Int32} (hd : decode B pc = .ok (.ldc index, 2) ∧ pc + 2 = pc') (i : Nat) (w : tables_1[i]? = some (Cond.constant own index v)) (g : own_Go p.tables e below (T.setTop (mkF m pc' Ls (.int v :: S))) RR) : own_Go p.tables e below (T.setTop (mkF m pc Ls S)) RR := own_ldc X j.1 j.2.1 hd.1 hd.2 j.2.2.2.2.2.2.2.1 j.2.2.2.1 (own_t j.2.2.2.2.2.2.2.2 i w) g
theorem o_ldcw (X : Stand p l e R s m args below meth c T locs cells slots) (j : oJ p c s m meth Z a0 B ml own nm rt) {index : Nat} {v : Int32} (hd : decode B pc = .ok (.ldc_w index, 3) ∧ pc + 3 = pc') (i : Nat) (w : tables_1[i]? = some (Cond.constant own index v)) (g : own_Go p.tables e below (T.setTop (mkF m pc' Ls (.int v :: S))) RR) : own_Go p.tables e below (T.setTop (mkF m pc Ls S)) RR := own_ldcw X j.1 j.2.1 hd.1 hd.2 j.2.2.2.2.2.2.2.1 j.2.2.2.1 (own_t j.2.2.2.2.2.2.2.2 i w) g
theorem o_ldc2 (X : Stand p l e R s m args below meth c T locs cells slots) (j : oJ p c s m meth Z a0 B ml own nm rt) {index : Nat} {v : Int64} (hd : decode B pc = .ok (.ldc2_w index, 3) ∧ pc + 3 = pc') (i : Nat) (w : tables_1[i]? = some (Cond.constantLong own index v)) (g : own_Go p.tables e below (T.setTop (mkF m pc' Ls (.long v :: S))) RR) : own_Go p.tables e below (T.setTop (mkF m pc Ls S)) RR := own_ldc2 X j.1 j.2.1 hd.1 hd.2 j.2.2.2.2.2.2.2.1 j.2.2.2.1 (own_t j.2.2.2.2.2.2.2.2 i w) g
theorem o_getS (X : Stand p l e R s m args below meth c T locs cells slots) (j : oJ p c s m meth Z a0 B ml own nm rt) {R0 n d : String} {index : Nat} {v : Value} (hd : decode B pc = .ok (.getstatic index, 3) ∧ pc + 3 = pc') (i : Nat) (w : tables_1[i]? = some (Cond.fieldLink own index R0 n d)) (eT : T.heap = h) (F : Sta Z h R0 n d v) (g : ∀ T' : State, Stand p l e R s m args below meth c T' locs cells slots → T'.heap = h → own_Go p.tables e below (T'.setTop (mkF m pc' Ls (v :: S))) RR) : own_Go p.tables e below (T.setTop (mkF m pc Ls S)) RR := own_getS X j.1 j.2.1 hd.1 hd.2 j.2.2.2.2.2.2.2.1 j.2.2.2.1 (host := "") (Or.inl (own_t j.2.2.2.2.2.2.2.2 i w)) Via.refl eT F g
theorem o_getF (X : Stand p l e R s m args below meth c T locs cells slots) (j : oJ p c s m meth Z a0 B ml own nm rt) {R0 n d : String} {index : Nat} {v : Value} {a : Addr} (hd : decode B pc = .ok (.getfield index, 3) ∧ pc + 3 = pc') (i : Nat) (w : tables_1[i]? = some (Cond.fieldLink own index R0 n d)) (eT : T.heap = h) (F : Fld Z h a R0 n d v) (g : ∀ T' : State, Stand p l e R s m args below meth c T' locs cells slots → T'.heap = h → own_Go p.tables e below (T'.setTop (mkF m pc' Ls (v :: S))) RR) : own_Go p.tables e below (T.setTop (mkF m pc Ls (.ref a :: S))) RR := own_getF X j.1 j.2.1 hd.1 hd.2 j.2.2.2.2.2.2.2.1 j.2.2.2.1 (host := "") (Or.inl (own_t j.2.2.2.2.2.2.2.2 i w)) Via.refl eT F g
theorem o_new (X : Stand p l e R s m args below meth c T locs cells slots) (j : oJ p c s m meth Z a0 B ml own nm rt) {C : String} {index n : Nat} (hd : decode B pc = .ok (.new index, 3) ∧ pc + 3 = pc') (i1 i2 i3 : Nat) (w : tables_1[i1]? = some (Cond.classLink own index C) ∧ tables_1[i2]? = some (Cond.instantiable C n) ∧ tables_1[i3]? = some (Cond.initialized C)) (eT : T.heap = h) (g : ∀ (T' : State) (h' : Heap) (a : Addr), Stand p l e R s m args below meth c T' locs (cells + 1) (slots + n) → T'.heap = h' → a = h.size → Ext h h' → Exa Z h' a C → (∀ {O nm d : String} {ty : FieldType}, Laid Z a0 C O nm d → parseFieldDescriptor d = some ty → Fld Z h' a O nm d (defaultValue ty)) → own_Go p.tables e below (T'.setTop (mkF m pc' Ls (.ref a :: S))) RR) (hc : cells + 1 ≤ R.cells := by decide) (hl : slots + n ≤ R.slots := by decide) : own_Go p.tables e below (T.setTop (mkF m pc Ls S)) RR := own_new X j.1 j.2.1 hd.1 hd.2 j.2.2.2.2.2.2.2.1 j.2.2.2.1 (own_t j.2.2.2.2.2.2.2.2 i1 w.1) (own_t j.2.2.2.2.2.2.2.2 i2 w.2.1) (own_t j.2.2.2.2.2.2.2.2 i3 w.2.2) eT hc hl g
theorem o_put (X : Stand p l e R s m args below meth c T locs cells slots) (j : oJ p c s m meth Z a0 B ml own nm rt) {R0 n d C : String} {index kk : Nat} {a : Addr} {v old : Value} (hd : decode B pc = .ok (.putfield index, 3) ∧ pc + 3 = pc') (i1 i2 i3 : Nat) (w : tables_1[i1]? = some (Cond.fieldLink own index R0 n d) ∧ tables_1[i2]? = some (Cond.lays C R0 n d) ∧ tables_1[i3]? = some (Cond.instantiable C kk)) (ty : FieldType) (eT : T.heap = h) (F : Fld Z h a R0 n d old) (E : Exa Z h a C) (g : ∀ (T' : State) (h' : Heap), Stand p l e R s m args below meth c T' (locs ++ [⟨a, Jvm.RoadKit.slotOf Z R0 n d⟩]) cells slots → T'.heap = h' → Wr h h' a (Jvm.RoadKit.slotOf Z R0 n d) v → own_Go p.tables e below (T'.setTop (mkF m pc' Ls S)) RR) (hty : parseFieldDescriptor d = some ty := by decide) (hn : narrow ty v = v := by rfl) (hf : fits ty v = true := by rfl) : own_Go p.tables e below (T.setTop (mkF m pc Ls (v :: .ref a :: S))) RR := own_put X j.1 j.2.1 hd.1 hd.2 j.2.2.2.2.2.2.2.1 j.2.2.2.1 (host := "") (Or.inl (own_t j.2.2.2.2.2.2.2.2 i1 w.1)) Via.refl eT F E (Or.inl (own_t j.2.2.2.2.2.2.2.2 i2 w.2.1)) (own_t j.2.2.2.2.2.2.2.2 i3 w.2.2) hty hn hf g
theorem o_putf (X : Stand p l e R s m args below meth c T locs cells slots) (j : oJ p c s m meth Z a0 B ml own nm rt) {R0 n d C : String} {index kk : Nat} {a : Addr} {v old : Value} (hd : decode B pc = .ok (.putfield index, 3) ∧ pc + 3 = pc') (i1 i2 i3 : Nat) (w : tables_1[i1]? = some (Cond.fieldLink own index R0 n d) ∧ tables_1[i2]? = some (Cond.laysFinal C R0 n d) ∧ tables_1[i3]? = some (Cond.instantiable C kk)) (ty : FieldType) (eT : T.heap = h) (F : Fld Z h a R0 n d old) (E : Exa Z h a C) (g : ∀ (T' : State) (h' : Heap), Stand p l e R s m args below meth c T' (locs ++ [⟨a, Jvm.RoadKit.slotOf Z R0 n d⟩]) cells slots → T'.heap = h' → Wr h h' a (Jvm.RoadKit.slotOf Z R0 n d) v → own_Go p.tables e below (T'.setTop (mkF m pc' Ls S)) RR) (ho : own = R0 := by rfl) (hi : nm = "<init>" := by rfl) (hty : parseFieldDescriptor d = some ty := by decide) (hn : narrow ty v = v := by rfl) (hf : fits ty v = true := by rfl) : own_Go p.tables e below (T.setTop (mkF m pc Ls (v :: .ref a :: S))) RR := own_put X j.1 j.2.1 hd.1 hd.2 j.2.2.2.2.2.2.2.1 j.2.2.2.1 (host := "") (Or.inl (own_t j.2.2.2.2.2.2.2.2 i1 w.1)) Via.refl eT F E (Or.inr ⟨own_t j.2.2.2.2.2.2.2.2 i2 w.2.1, ho, j.2.2.2.2.1.trans hi⟩) (own_t j.2.2.2.2.2.2.2.2 i3 w.2.2) hty hn hf g
theorem o_initO (X : Stand p l e R s m args below meth c T locs cells slots) (j : oJ p c s m meth Z a0 B ml own nm rt) {index : Nat} {a : Addr} (hd : decode B pc = .ok (.invokespecial index, 3) ∧ pc + 3 = pc') (i1 i2 i3 : Nat) (w : tables_1[i1]? = some (Cond.methodLink own index Lib.objectInit) ∧ tables_1[i2]? = some (Cond.instanceMethod Lib.objectInit) ∧ tables_1[i3]? = some (Cond.code Lib.objectInit ⟨#[0xb1]⟩ 1 none)) (eT : T.heap = h) (W : Nat) (g : ∀ (T' : State), Stand p l e R s m args below meth c T' locs cells slots → T'.heap = h → own_Go p.tables e below (T'.setTop (mkF m pc' Ls S)) RR) (hsz : Ls.size = ml := by rfl) (hf : 1 ≤ R.frames := by decide) (hW : (S.map fun v => v.category).sum ≤ W := by exact Nat.le_of_eq rfl) (hl : W + 12 ≤ R.locals := by decide) : own_Go p.tables e below (T.setTop (mkF m pc Ls (.ref a :: S))) RR := own_initO X j.1 j.2.1 hd.1 hd.2 j.2.2.2.2.2.2.2.1 j.2.2.2.1 (own_t j.2.2.2.2.2.2.2.2 i1 w.1) (own_t j.2.2.2.2.2.2.2.2 i2 w.2.1) (own_t j.2.2.2.2.2.2.2.2 i3 w.2.2) eT (hsz.trans j.2.2.1.symm) hf hW hl g
theorem o_newA (X : Stand p l e R s m args below meth c T locs cells slots) (j : oJ p c s m meth Z a0 B ml own nm rt) {aty : ArrayType} {n : Int32} (hd : decode B pc = .ok (.newarray aty, 2) ∧ pc + 2 = pc') (i : Nat) (w : tables_1[i]? = some (Cond.arrayClass (newarray.typeOf aty))) (eT : T.heap = h) (cap : Nat) (vs : List Value) (g : ∀ (T' : State) (h' : Heap) (a : Addr), Stand p l e R s m args below meth c T' locs (cells + 1) (slots + cap) → T'.heap = h' → a = h.size → Ext h h' → own_Ar Z h' a (newarray.typeOf aty) vs → own_Go p.tables e below (T'.setTop (mkF m pc' Ls (.ref a :: S))) RR) (hn : ¬ n < 0 := by decide) (hcap : n.toNatClampNeg ≤ cap := by decide) (hbig : cap * 8 ≤ 536870912 := by decide) (hc : cells + 1 ≤ R.cells := by decide) (hl : slots + cap ≤ R.slots := by decide) (hvs : List.replicate n.toNatClampNeg (defaultValue (newarray.typeOf aty)) = vs := by rfl) : own_Go p.tables e below (T.setTop (mkF m pc Ls (.int n :: S))) RR := own_newA X j.1 j.2.1 hd.1 hd.2 j.2.2.2.2.2.2.2.1 (own_t j.2.2.2.2.2.2.2.2 i w) eT hn hcap hbig hc hl hvs g
theorem o_iaload (X : Stand p l e R s m args below meth c T locs cells slots) (j : oJ p c s m meth Z a0 B ml own nm rt) {a : Addr} {j0 : Int32} {vs : List Value} (hd : decode B pc = .ok (.iaload, 1) ∧ pc + 1 = pc') (eT : T.heap = h) (A : own_Ar Z h a .int vs) (v : Value) (g : own_Go p.tables e below (T.setTop (mkF m pc' Ls (v :: S))) RR) (hj : ¬ j0 < 0 := by decide) (hv : vs[j0.toNatClampNeg]? = some v := by rfl) : own_Go p.tables e below (T.setTop (mkF m pc Ls (.int j0 :: .ref a :: S))) RR := own_iaload X j.1 j.2.1 hd.1 hd.2 j.2.2.2.2.2.2.2.1 eT A hj hv g
theorem o_laload (X : Stand p l e R s m args below meth c T locs cells slots) (j : oJ p c s m meth Z a0 B ml own nm rt) {a : Addr} {j0 : Int32} {vs : List Value} (hd : decode B pc = .ok (.laload, 1) ∧ pc + 1 = pc') (eT : T.heap = h) (A : own_Ar Z h a .long vs) (v : Value) (g : own_Go p.tables e below (T.setTop (mkF m pc' Ls (v :: S))) RR) (hj : ¬ j0 < 0 := by decide) (hv : vs[j0.toNatClampNeg]? = some v := by rfl) : own_Go p.tables e below (T.setTop (mkF m pc Ls (.int j0 :: .ref a :: S))) RR := own_laload X j.1 j.2.1 hd.1 hd.2 j.2.2.2.2.2.2.2.1 eT A hj hv g
theorem o_aaload (X : Stand p l e R s m args below meth c T locs cells slots) (j : oJ p c s m meth Z a0 B ml own nm rt) {a : Addr} {j0 : Int32} {vs : List Value} {ty : FieldType} (hd : decode B pc = .ok (.aaload, 1) ∧ pc + 1 = pc') (eT : T.heap = h) (A : own_Ar Z h a ty vs) (v : Value) (g : own_Go p.tables e below (T.setTop (mkF m pc' Ls (v :: S))) RR) (hty : ty.isReference = true := by rfl) (hj : ¬ j0 < 0 := by decide) (hv : vs[j0.toNatClampNeg]? = some v := by rfl) : own_Go p.tables e below (T.setTop (mkF m pc Ls (.int j0 :: .ref a :: S))) RR := own_aaload X j.1 j.2.1 hty hd.1 hd.2 j.2.2.2.2.2.2.2.1 eT A hj hv g
theorem o_iastore (X : Stand p l e R s m args below meth c T locs cells slots) (j : oJ p c s m meth Z a0 B ml own nm rt) {a : Addr} {j0 x : Int32} {vs : List Value} (hd : decode B pc = .ok (.iastore, 1) ∧ pc + 1 = pc') (eT : T.heap = h) (A : own_Ar Z h a .int vs) (v : Value) (g : ∀ (T' : State) (h' : Heap), Stand p l e R s m args below meth c T' (locs ++ [⟨a, j0.toNatClampNeg⟩]) cells slots → T'.heap = h' → Wr h h' a j0.toNatClampNeg (.int x) → own_Ar Z h' a .int (vs.set j0.toNatClampNeg (.int x)) → own_Go p.tables e below (T'.setTop (mkF m pc' Ls S)) RR) (hj : ¬ j0 < 0 := by decide) (hv : vs[j0.toNatClampNeg]? = some v := by rfl) : own_Go p.tables e below (T.setTop (mkF m pc Ls ((.int x) :: .int j0 :: .ref a :: S))) RR := own_iastore X j.1 j.2.1 hd.1 hd.2 j.2.2.2.2.2.2.2.1 eT A hj hv g
theorem o_len (X : Stand p l e R s m args below meth c T locs cells slots) (j : oJ p c s m meth Z a0 B ml own nm rt) {a : Addr} {ty : FieldType} {vs : List Value} (hd : decode B pc = .ok (.arraylength, 1) ∧ pc + 1 = pc') (eT : T.heap = h) (A : own_Ar Z h a ty vs) (n : Int32) (g : own_Go p.tables e below (T.setTop (mkF m pc' Ls (.int n :: S))) RR) (hn : vs.length.toInt32 = n := by rfl) : own_Go p.tables e below (T.setTop (mkF m pc Ls (.ref a :: S))) RR := own_len X j.1 j.2.1 hd.1 hd.2 j.2.2.2.2.2.2.2.1 eT A hn g
theorem o_callS (X : Stand p l e R s m args below meth c T locs cells slots) (j : oJ p c s m meth Z a0 B ml own nm rt) {y : MethodName} {bytes : ByteArray} {maxL : Nat} {rt' : Option FieldType} {rm : Room} {as' : Array Value} (hM : own_Met l y bytes maxL rt' [] rm as' Z h Q) {index : Nat} {argsL rest st : List Value} (ha : argsL.toArray = as') (hst : st = argsL.reverse ++ rest) (hlen : ∀ sig, parseMethodDescriptor y.desc = some sig → argsL.length = sig.parameters.length) (hd : decode B pc = .ok (.invokestatic index, 3) ∧ pc + 3 = pc') (i1 i2 i3 i4 : Nat) (w : tables_1[i1]? = some (Cond.methodLink own index y) ∧ tables_1[i2]? = some (Cond.static y) ∧ tables_1[i3]? = some (Cond.initialized y.cls) ∧ tables_1[i4]? = some (Cond.code y bytes maxL rt')) (W : Nat) (eT : T.heap = h) (k : ∀ (v : Option Value) (T' : State) (L : List Loc), Stand p l e R s m args below meth c T' (locs ++ L) (cells + rm.cells) (slots + rm.slots) → Q v T'.heap L → own_Go p.tables e below (T'.setTop (mkF m pc' Ls (v.toList ++ rest))) RR) (hy : y.cls ≠ "java/lang/invoke/MethodHandle" ∧ y.cls ≠ "java/lang/invoke/VarHandle" := by decide) (hf : rm.frames + 1 ≤ R.frames := by decide) (hl : W + (maxL + 11) + rm.locals ≤ R.locals := by decide) (hsz : Ls.size = ml := by rfl) (hW : (rest.map fun v => v.category).sum ≤ W := by exact Nat.le_of_eq rfl) (hc : cells + rm.cells ≤ R.cells := by decide) (hs : slots + rm.slots ≤ R.slots := by decide) : own_Go p.tables e below (T.setTop (mkF m pc Ls st)) RR := by
  obtain ⟨hd, rfl⟩ := hd
  exact own_callS X j.1 j.2.2.2.2.2.2.2.1 hM j.2.2.2.1 (own_t j.2.2.2.2.2.2.2.2 i1 w.1) (own_t j.2.2.2.2.2.2.2.2 i2 w.2.1) (own_t j.2.2.2.2.2.2.2.2 i3 w.2.2.1) (own_t j.2.2.2.2.2.2.2.2 i4 w.2.2.2) hy hf hl (hsz.trans j.2.2.1.symm) ha hlen hst hW (hb j.2.1 hd) eT hc hs k
theorem o_callV (X : Stand p l e R s m args below meth c T locs cells slots) (j : oJ p c s m meth Z a0 B ml own nm rt) {y : MethodName} {bytes : ByteArray} {maxL : Nat} {rt' : Option FieldType} {rm : Room} {as' : Array Value} (hM : own_Met l y bytes maxL rt' [] rm as' Z h Q) {C : String} {index : Nat} {a : Addr} {argsL rest st : List Value} (ha : (Value.ref a :: argsL).toArray = as') (hst : st = argsL.reverse ++ .ref a :: rest) (hlen : ∀ sig, parseMethodDescriptor y.desc = some sig → argsL.length = sig.parameters.length) (hd : decode B pc = .ok (.invokevirtual index, 3) ∧ pc + 3 = pc') (i1 i2 i3 i4 i5 i6 : Nat) (w : tables_1[i1]? = some (Cond.methodLink own index y) ∧ tables_1[i2]? = some (Cond.declares y) ∧ tables_1[i3]? = some (Cond.selects C y y) ∧ tables_1[i4]? = some (Cond.instanceMethod y) ∧ tables_1[i5]? = some (Cond.code y bytes maxL rt') ∧ tables_1[i6]? = some (Cond.initialized y.cls)) (E : Exa Z h a C) (W : Nat) (eT : T.heap = h) (k : ∀ (v : Option Value) (T' : State) (L : List Loc), Stand p l e R s m args below meth c T' (locs ++ L) (cells + rm.cells) (slots + rm.slots) → Q v T'.heap L → own_Go p.tables e below (T'.setTop (mkF m pc' Ls (v.toList ++ rest))) RR) (hy : y.cls ≠ "java/lang/invoke/MethodHandle" ∧ y.cls ≠ "java/lang/invoke/VarHandle" := by decide) (hf : rm.frames + 1 ≤ R.frames := by decide) (hl : W + (maxL + 11) + rm.locals ≤ R.locals := by decide) (hsz : Ls.size = ml := by rfl) (hW : (rest.map fun v => v.category).sum ≤ W := by exact Nat.le_of_eq rfl) (hc : cells + rm.cells ≤ R.cells := by decide) (hs : slots + rm.slots ≤ R.slots := by decide) : own_Go p.tables e below (T.setTop (mkF m pc Ls st)) RR := by
  obtain ⟨hd, rfl⟩ := hd
  exact own_callV X j.1 j.2.2.2.2.2.2.2.1 hM j.2.2.2.1 (own_t j.2.2.2.2.2.2.2.2 i1 w.1) (own_t j.2.2.2.2.2.2.2.2 i2 w.2.1) (own_t j.2.2.2.2.2.2.2.2 i3 w.2.2.1) (own_t j.2.2.2.2.2.2.2.2 i4 w.2.2.2.1) (own_t j.2.2.2.2.2.2.2.2 i5 w.2.2.2.2.1) (own_t j.2.2.2.2.2.2.2.2 i6 w.2.2.2.2.2) hy E hf hl (hsz.trans j.2.2.1.symm) ha hlen hst hW (hb j.2.1 hd) eT hc hs k
theorem o_callPv (X : Stand p l e R s m args below meth c T locs cells slots) (j : oJ p c s m meth Z a0 B ml own nm rt) {y : MethodName} {bytes : ByteArray} {maxL : Nat} {rt' : Option FieldType} {rm : Room} {as' : Array Value} (hM : own_Met l y bytes maxL rt' [] rm as' Z h Q) {C : String} {index : Nat} {a : Addr} {argsL rest st : List Value} (ha : (Value.ref a :: argsL).toArray = as') (hst : st = argsL.reverse ++ .ref a :: rest) (hlen : ∀ sig, parseMethodDescriptor y.desc = some sig → argsL.length = sig.parameters.length) (hd : decode B pc = .ok (.invokevirtual index, 3) ∧ pc + 3 = pc') (i1 i2 i3 i4 i5 i6 : Nat) (w : tables_1[i1]? = some (Cond.methodLink own index y) ∧ tables_1[i2]? = some (Cond.privateMethod y) ∧ tables_1[i3]? = some (Cond.selects y.cls y y) ∧ tables_1[i4]? = some (Cond.instanceMethod y) ∧ tables_1[i5]? = some (Cond.code y bytes maxL rt') ∧ tables_1[i6]? = some (Cond.initialized y.cls)) (E : Exa Z h a C) (W : Nat) (eT : T.heap = h) (k : ∀ (v : Option Value) (T' : State) (L : List Loc), Stand p l e R s m args below meth c T' (locs ++ L) (cells + rm.cells) (slots + rm.slots) → Q v T'.heap L → own_Go p.tables e below (T'.setTop (mkF m pc' Ls (v.toList ++ rest))) RR) (hy : y.cls ≠ "java/lang/invoke/MethodHandle" ∧ y.cls ≠ "java/lang/invoke/VarHandle" := by decide) (hf : rm.frames + 1 ≤ R.frames := by decide) (hl : W + (maxL + 11) + rm.locals ≤ R.locals := by decide) (hsz : Ls.size = ml := by rfl) (hW : (rest.map fun v => v.category).sum ≤ W := by exact Nat.le_of_eq rfl) (hc : cells + rm.cells ≤ R.cells := by decide) (hs : slots + rm.slots ≤ R.slots := by decide) : own_Go p.tables e below (T.setTop (mkF m pc Ls st)) RR := by
  obtain ⟨hd, rfl⟩ := hd
  exact own_callPv X j.1 j.2.2.2.2.2.2.2.1 hM j.2.2.2.1 (own_t j.2.2.2.2.2.2.2.2 i1 w.1) (own_t j.2.2.2.2.2.2.2.2 i2 w.2.1) (own_t j.2.2.2.2.2.2.2.2 i3 w.2.2.1) (own_t j.2.2.2.2.2.2.2.2 i4 w.2.2.2.1) (own_t j.2.2.2.2.2.2.2.2 i5 w.2.2.2.2.1) (own_t j.2.2.2.2.2.2.2.2 i6 w.2.2.2.2.2) hy E hf hl (hsz.trans j.2.2.1.symm) ha hlen hst hW (hb j.2.1 hd) eT hc hs k
theorem o_callSp (X : Stand p l e R s m args below meth c T locs cells slots) (j : oJ p c s m meth Z a0 B ml own nm rt) {y : MethodName} {bytes : ByteArray} {maxL : Nat} {rm : Room} {as' : Array Value} (hM : own_Met l y bytes maxL none [] rm as' Z h Q) {index : Nat} {a : Addr} {argsL rest st : List Value} (ha : (Value.ref a :: argsL).toArray = as') (hst : st = argsL.reverse ++ .ref a :: rest) (hlen : ∀ sig, parseMethodDescriptor y.desc = some sig → argsL.length = sig.parameters.length) (hd : decode B pc = .ok (.invokespecial index, 3) ∧ pc + 3 = pc') (i1 i2 i3 i4 : Nat) (w : tables_1[i1]? = some (Cond.methodLink own index y) ∧ tables_1[i2]? = some (Cond.instanceMethod y) ∧ tables_1[i3]? = some (Cond.code y bytes maxL none) ∧ tables_1[i4]? = some (Cond.initialized y.cls)) (W : Nat) (eT : T.heap = h) (k : ∀ (v : Option Value) (T' : State) (L : List Loc), Stand p l e R s m args below meth c T' (locs ++ L) (cells + rm.cells) (slots + rm.slots) → Q v T'.heap L → own_Go p.tables e below (T'.setTop (mkF m pc' Ls (v.toList ++ rest))) RR) (hin : y.name = "<init>" := by rfl) (hy : y.cls ≠ "java/lang/invoke/MethodHandle" ∧ y.cls ≠ "java/lang/invoke/VarHandle" := by decide) (hf : rm.frames + 1 ≤ R.frames := by decide) (hl : W + (maxL + 11) + rm.locals ≤ R.locals := by decide) (hsz : Ls.size = ml := by rfl) (hW : (rest.map fun v => v.category).sum ≤ W := by exact Nat.le_of_eq rfl) (hc : cells + rm.cells ≤ R.cells := by decide) (hs : slots + rm.slots ≤ R.slots := by decide) : own_Go p.tables e below (T.setTop (mkF m pc Ls st)) RR := by
  obtain ⟨hd, rfl⟩ := hd
  exact own_callSp X j.1 j.2.2.2.2.2.2.2.1 hM hin j.2.2.2.1 (own_t j.2.2.2.2.2.2.2.2 i1 w.1) (own_t j.2.2.2.2.2.2.2.2 i2 w.2.1) (own_t j.2.2.2.2.2.2.2.2 i3 w.2.2.1) (own_t j.2.2.2.2.2.2.2.2 i4 w.2.2.2) hy hf hl (hsz.trans j.2.2.1.symm) ha hlen hst hW (hb j.2.1 hd) eT hc hs k
theorem o_retI {z : Int32} (X : Stand p l e R s m args below meth c T locs cells slots) (j : oJ p c s m meth Z a0 B ml own nm (some .int))  {rest : List Value} {q k n : Nat} (hd : decode B pc = .ok (.ireturn, 1) ∧ pc + 1 = q) (eT : T.heap = h) (hq : Q (some (.int z)) h locs) (hk : cells ≤ k := by decide) (hn : slots ≤ n := by decide) : own_Go p.tables e below (T.setTop (mkF m pc Ls (.int z :: rest))) (own_R s Q k n) := own_retI X j.1 j.2.2.2.2.2.1 (hb j.2.1 hd.1) j.2.2.2.2.2.2.1 hk hn (by rw [eT]; exact hq)
theorem o_retJ {z : Int64} (X : Stand p l e R s m args below meth c T locs cells slots) (j : oJ p c s m meth Z a0 B ml own nm (some .long))  {rest : List Value} {q k n : Nat} (hd : decode B pc = .ok (.lreturn, 1) ∧ pc + 1 = q) (eT : T.heap = h) (hq : Q (some (.long z)) h locs) (hk : cells ≤ k := by decide) (hn : slots ≤ n := by decide) : own_Go p.tables e below (T.setTop (mkF m pc Ls (.long z :: rest))) (own_R s Q k n) := own_retJ X j.1 j.2.2.2.2.2.1 (hb j.2.1 hd.1) j.2.2.2.2.2.2.1 hk hn (by rw [eT]; exact hq)
theorem o_retA {z : Value} {t : FieldType} (X : Stand p l e R s m args below meth c T locs cells slots) (j : oJ p c s m meth Z a0 B ml own nm (some t))  {rest : List Value} {q k n : Nat} (hd : decode B pc = .ok (.areturn, 1) ∧ pc + 1 = q) (eT : T.heap = h) (hq : Q (some z) h locs) (ht : t.isReference = true := by rfl) (hz : z.isRef = true := by rfl) (hk : cells ≤ k := by decide) (hn : slots ≤ n := by decide) : own_Go p.tables e below (T.setTop (mkF m pc Ls (z :: rest))) (own_R s Q k n) := own_retA X j.1 j.2.2.2.2.2.1 ht hz (hb j.2.1 hd.1) j.2.2.2.2.2.2.1 hk hn (by rw [eT]; exact hq)
theorem o_retV  (X : Stand p l e R s m args below meth c T locs cells slots) (j : oJ p c s m meth Z a0 B ml own nm none)  {q k n : Nat} (hd : decode B pc = .ok (.return_, 1) ∧ pc + 1 = q) (eT : T.heap = h) (hq : Q none h locs) (hk : cells ≤ k := by decide) (hn : slots ≤ n := by decide) : own_Go p.tables e below (T.setTop (mkF m pc Ls [])) (own_R s Q k n) := own_retV X j.1 j.2.2.2.2.2.1 (hb j.2.1 hd.1) j.2.2.2.2.2.2.1 hk hn (by rw [eT]; exact hq)
end OwnShort
theorem ntr {a b c : Nat} (h : a ≤ b) (i : b ≤ c) : a ≤ c := Nat.le_trans h i
theorem nlt {a b c : Nat} (h : a < b) (i : b ≤ c) : a < c := Nat.lt_of_lt_of_le h i
theorem nne {a b : Nat} (h : a < b) : a ≠ b := Nat.ne_of_lt h
theorem nqs {a b : Nat} (h : a = b) : b ≤ a := Nat.le_of_eq h.symm
theorem mI {α : Type} {ws : List α} {a : α} {p : Prop} (i : Nat) (e : ws[i]? = some a) : a ∈ ws ∨ p := Or.inl (List.mem_of_getElem? e)
abbrev oG (p : Program) (e : Env) (b : List Frame) (T : State) (m : MethodId) (pc : Nat) (Ls : Array Slot) (S : List Value) (R : Outcome → State → Prop) : Prop := own_Go p.tables e b (T.setTop (mkF m pc Ls S)) R
set_option maxRecDepth 65536
set_option maxHeartbeats 40000000
section OwnC
variable {l : Launch} {Z : State} {a0 : Array Value} {g : Nat → Addr} {ws : List Jvm.Cond} {h0 : Heap} {n0 : Nat}
def dc1 := @own_u prog_22_method_2_code [(0, .iload_n 0, 1, 1), (1, .iconst 1, 1, 2), (2, .if_icmp .lt 9, 3, 5), (5, .iload_n 0, 1, 6), (6, .bipush 61, 2, 8), (8, .if_icmp .le 17, 3, 11), (25, .getstatic 18, 3, 28), (28, .lconst 1, 1, 29), (29, .iload_n 0, 1, 30), (30, .iconst 1, 1, 31), (31, .isub, 1, 32), (32, .lshl, 1, 33), (33, .invokevirtual 22, 3, 36), (36, .areturn, 1, 37)] (by decide +kernel)
def dc2 := @own_u jdk_2316_method_44_code [(0, .lload_n 1, 1, 1), (1, .lconst 0, 1, 2), (2, .lcmp, 1, 3), (3, .ifCond .ne 7, 3, 6), (10, .lload_n 1, 1, 11), (11, .lconst 1, 1, 12), (12, .lcmp, 1, 13), (13, .ifCond .ne 5, 3, 16), (16, .aload_n 0, 1, 17), (17, .areturn, 1, 18), (18, .aload_n 0, 1, 19), (19, .invokevirtual 309, 3, 22), (22, .lload_n 1, 1, 23), (23, .invokestatic 313, 3, 26), (26, .invokevirtual 319, 3, 29), (29, .invokestatic 323, 3, 32), (32, .areturn, 1, 33)] (by decide +kernel)
def dc5 := @own_u jdk_2316_method_47_code [(0, .aload_n 0, 1, 1), (1, .getfield 221, 3, 4), (4, .invokestatic 313, 3, 7), (7, .aload_n 0, 1, 8), (8, .getfield 224, 3, 11), (11, .i2l, 1, 12), (12, .bipush 9, 2, 14), (14, .invokestatic 347, 3, 17), (17, .invokevirtual 350, 3, 20), (20, .areturn, 1, 21)] (by decide +kernel)
def dc6 := @own_u jdk_17_method_21_code [(0, .lload_n 0, 1, 1), (1, .lconst 0, 1, 2), (2, .lcmp, 1, 3), (3, .ifCond .lt 20, 3, 6), (6, .lload_n 0, 1, 7), (7, .getstatic 246, 3, 10), (10, .arraylength, 1, 11), (11, .i2l, 1, 12), (12, .lcmp, 1, 13), (13, .ifCond .ge 10, 3, 16), (16, .getstatic 246, 3, 19), (19, .lload_n 0, 1, 20), (20, .l2i, 1, 21), (21, .aaload, 1, 22), (22, .areturn, 1, 23), (23, .lload_n 0, 1, 24), (24, .ldc2_w 125, 3, 27), (27, .lcmp, 1, 28), (28, .ifCond .eq 15, 3, 31), (31, .new 3, 3, 34), (34, .dup, 1, 35), (35, .aconst_null, 1, 36), (36, .lload_n 0, 1, 37), (37, .iconst 0, 1, 38), (38, .iconst 0, 1, 39), (39, .invokespecial 243, 3, 42), (42, .areturn, 1, 43)] (by decide +kernel)
def dc7 := @own_u jdk_17_method_20_code [(0, .iload_n 2, 1, 1), (1, .ifCond .ne 8, 3, 4), (9, .lload_n 0, 1, 10), (10, .lconst 0, 1, 11), (11, .lcmp, 1, 12), (12, .ifCond .ne 8, 3, 15), (15, .iload_n 2, 1, 16), (16, .invokestatic 239, 3, 19), (19, .areturn, 1, 20), (20, .new 3, 3, 23), (23, .dup, 1, 24), (24, .lload_n 0, 1, 25), (25, .ldc2_w 125, 3, 28), (28, .lcmp, 1, 29), (29, .ifCond .ne 9, 3, 32), (38, .aconst_null, 1, 39), (39, .lload_n 0, 1, 40), (40, .iload_n 2, 1, 41), (41, .iconst 0, 1, 42), (42, .invokespecial 243, 3, 45), (45, .areturn, 1, 46)] (by decide +kernel)
def dc8 := @own_u jdk_17_method_24_code [(0, .iload_n 0, 1, 1), (1, .ifCond .lt 17, 3, 4), (4, .iload_n 0, 1, 5), (5, .getstatic 250, 3, 8), (8, .arraylength, 1, 9), (9, .if_icmp .ge 9, 3, 12), (12, .getstatic 250, 3, 15), (15, .iload_n 0, 1, 16), (16, .aaload, 1, 17), (17, .areturn, 1, 18)] (by decide +kernel)
def dc9 := @own_u jdk_17_method_26_code [(0, .aload_n 0, 1, 1), (1, .getfield 24, 3, 4), (4, .ldc2_w 125, 3, 7), (7, .lcmp, 1, 8), (8, .ifCond .eq 54, 3, 11), (11, .aload_n 1, 1, 12), (12, .getfield 24, 3, 15), (15, .ldc2_w 125, 3, 18), (18, .lcmp, 1, 19), (19, .ifCond .eq 23, 3, 22), (22, .aload_n 0, 1, 23), (23, .getfield 24, 3, 26), (26, .aload_n 0, 1, 27), (27, .getfield 17, 3, 30), (30, .aload_n 1, 1, 31), (31, .getfield 24, 3, 34), (34, .aload_n 1, 1, 35), (35, .getfield 17, 3, 38), (38, .invokestatic 257, 3, 41), (41, .areturn, 1, 42)] (by decide +kernel)
def dc10 := @own_u jdk_17_method_134_code [(0, .iload_n 2, 1, 1), (1, .i2l, 1, 2), (2, .iload 5, 2, 4), (4, .i2l, 1, 5), (5, .lsub, 1, 6), (6, .lstore 6, 2, 8), (8, .lload 6, 2, 10), (10, .lconst 0, 1, 11), (11, .lcmp, 1, 12), (12, .ifCond .ne 10, 3, 15), (22, .lload 6, 2, 24), (24, .lconst 0, 1, 25), (25, .lcmp, 1, 26), (26, .ifCond .ge 85, 3, 29), (29, .lload_n 0, 1, 30), (30, .lload 6, 2, 32), (32, .lneg, 1, 33), (33, .invokestatic 994, 3, 36), (36, .istore 8, 2, 38), (38, .lload_n 0, 1, 39), (39, .iload 8, 2, 41), (41, .invokestatic 599, 3, 44), (44, .lstore 9, 2, 46), (46, .lload 9, 2, 48), (48, .ldc2_w 125, 3, 51), (51, .lcmp, 1, 52), (52, .ifCond .eq 12, 3, 55), (55, .lload 9, 2, 57), (57, .lload_n 3, 1, 58), (58, .iload 5, 2, 60), (60, .invokestatic 1000, 3, 63), (63, .areturn, 1, 64)] (by decide +kernel)
def dc11 := @own_u jdk_17_method_113_code [(0, .lload_n 2, 1, 1), (1, .l2i, 1, 2), (2, .istore 4, 2, 4), (4, .iload 4, 2, 6), (6, .i2l, 1, 7), (7, .lload_n 2, 1, 8), (8, .lcmp, 1, 9), (9, .ifCond .eq 50, 3, 12), (59, .iload 4, 2, 61), (61, .ireturn, 1, 62)] (by decide +kernel)
def dc12 := @own_u jdk_17_method_97_code [(0, .lload_n 0, 1, 1), (1, .lconst 0, 1, 2), (2, .lcmp, 1, 3), (3, .ifCond .eq 7, 3, 6), (6, .iload_n 2, 1, 7), (7, .ifCond .gt 5, 3, 10), (12, .getstatic 95, 3, 15), (15, .astore_n 3, 1, 16), (16, .getstatic 825, 3, 19), (19, .astore 4, 2, 21), (21, .iload_n 2, 1, 22), (22, .aload_n 3, 1, 23), (23, .arraylength, 1, 24), (24, .if_icmp .ge 41, 3, 27), (27, .iload_n 2, 1, 28), (28, .aload 4, 2, 30), (30, .arraylength, 1, 31), (31, .if_icmp .ge 34, 3, 34), (34, .aload_n 3, 1, 35), (35, .iload_n 2, 1, 36), (36, .laload, 1, 37), (37, .lstore 5, 2, 39), (39, .lload_n 0, 1, 40), (40, .lconst 1, 1, 41), (41, .lcmp, 1, 42), (42, .ifCond .ne 6, 3, 45), (48, .lload_n 0, 1, 49), (49, .invokestatic 440, 3, 52), (52, .aload 4, 2, 54), (54, .iload_n 2, 1, 55), (55, .laload, 1, 56), (56, .lcmp, 1, 57), (57, .ifCond .gt 8, 3, 60), (60, .lload_n 0, 1, 61), (61, .lload 5, 2, 63), (63, .lmul, 1, 64), (64, .lreturn, 1, 65)] (by decide +kernel)
def dc13 := @own_u jdk_29_method_61_code [(0, .lload_n 0, 1, 1), (1, .lconst 0, 1, 2), (2, .lcmp, 1, 3), (3, .ifCond .ge 8, 3, 6), (11, .lload_n 0, 1, 12), (12, .lreturn, 1, 13)] (by decide +kernel)
def dc14 := @own_u jdk_17_method_133_code [(0, .lload_n 0, 1, 1), (1, .lload_n 2, 1, 2), (2, .invokestatic 996, 3, 5), (5, .lstore 5, 2, 7), (7, .lload 5, 2, 9), (9, .ldc2_w 125, 3, 12), (12, .lcmp, 1, 13), (13, .ifCond .eq 11, 3, 16), (16, .lload 5, 2, 18), (18, .iload 4, 2, 20), (20, .invokestatic 328, 3, 23), (23, .areturn, 1, 24)] (by decide +kernel)
def dc15 := @own_u jdk_17_method_132_code [(0, .lload_n 0, 1, 1), (1, .lload_n 2, 1, 2), (2, .ladd, 1, 3), (3, .lstore 4, 2, 5), (5, .lload 4, 2, 7), (7, .lload_n 0, 1, 8), (8, .lxor, 1, 9), (9, .lload 4, 2, 11), (11, .lload_n 2, 1, 12), (12, .lxor, 1, 13), (13, .land, 1, 14), (14, .lconst 0, 1, 15), (15, .lcmp, 1, 16), (16, .ifCond .lt 6, 3, 19), (19, .lload 4, 2, 21), (21, .lreturn, 1, 22)] (by decide +kernel)
def dc16 := @own_u jdk_17_method_1_code [(0, .aload_n 0, 1, 1), (1, .invokespecial 11, 3, 4), (4, .aload_n 0, 1, 5), (5, .iload 4, 2, 7), (7, .putfield 17, 3, 10), (10, .aload_n 0, 1, 11), (11, .iload 5, 2, 13), (13, .putfield 21, 3, 16), (16, .aload_n 0, 1, 17), (17, .lload_n 2, 1, 18), (18, .putfield 24, 3, 21), (21, .aload_n 0, 1, 22), (22, .aload_n 1, 1, 23), (23, .putfield 28, 3, 26), (26, .return_, 1, 27)] (by decide +kernel)
def dc17 := @own_u jdk_18_method_1_code [(0, .aload_n 0, 1, 1), (1, .invokespecial 1, 3, 4), (4, .return_, 1, 5)] (by decide +kernel)
def dc19 := @own_u jdk_17_method_31_code [(0, .aload_n 0, 1, 1), (1, .aload_n 0, 1, 2), (2, .getfield 17, 3, 5), (5, .i2l, 1, 6), (6, .aload_n 1, 1, 7), (7, .getfield 17, 3, 10), (10, .i2l, 1, 11), (11, .ladd, 1, 12), (12, .invokevirtual 325, 3, 15), (15, .istore_n 2, 1, 16), (16, .aload_n 0, 1, 17), (17, .getfield 24, 3, 20), (20, .ldc2_w 125, 3, 23), (23, .lcmp, 1, 24), (24, .ifCond .eq 40, 3, 27), (27, .aload_n 1, 1, 28), (28, .getfield 24, 3, 31), (31, .ldc2_w 125, 3, 34), (34, .lcmp, 1, 35), (35, .ifCond .eq 16, 3, 38), (38, .aload_n 0, 1, 39), (39, .getfield 24, 3, 42), (42, .aload_n 1, 1, 43), (43, .getfield 24, 3, 46), (46, .iload_n 2, 1, 47), (47, .invokestatic 342, 3, 50), (50, .areturn, 1, 51)] (by decide +kernel)
def dc20 := @own_u jdk_17_method_106_code [(0, .lload_n 1, 1, 1), (1, .l2i, 1, 2), (2, .istore_n 3, 1, 3), (3, .iload_n 3, 1, 4), (4, .i2l, 1, 5), (5, .lload_n 1, 1, 6), (6, .lcmp, 1, 7), (7, .ifCond .eq 69, 3, 10), (76, .iload_n 3, 1, 77), (77, .ireturn, 1, 78)] (by decide +kernel)
def dc21 := @own_u jdk_17_method_157_code [(0, .lload_n 0, 1, 1), (1, .lload_n 2, 1, 2), (2, .invokestatic 1055, 3, 5), (5, .lstore 5, 2, 7), (7, .lload 5, 2, 9), (9, .ldc2_w 125, 3, 12), (12, .lcmp, 1, 13), (13, .ifCond .eq 11, 3, 16), (16, .lload 5, 2, 18), (18, .iload 4, 2, 20), (20, .invokestatic 328, 3, 23), (23, .areturn, 1, 24), (24, .new 3, 3, 27), (27, .dup, 1, 28), (28, .lload_n 0, 1, 29), (29, .invokestatic 193, 3, 32), (32, .lload_n 2, 1, 33), (33, .invokevirtual 201, 3, 36), (36, .ldc2_w 125, 3, 39), (39, .iload 4, 2, 41), (41, .iconst 0, 1, 42), (42, .invokespecial 243, 3, 45), (45, .areturn, 1, 46)] (by decide +kernel)
def dc22 := @own_u jdk_17_method_156_code [(0, .lload_n 0, 1, 1), (1, .lload_n 2, 1, 2), (2, .lmul, 1, 3), (3, .lstore 4, 2, 5), (5, .lload_n 0, 1, 6), (6, .invokestatic 440, 3, 9), (9, .lstore 6, 2, 11), (11, .lload_n 2, 1, 12), (12, .invokestatic 440, 3, 15), (15, .lstore 8, 2, 17), (17, .lload 6, 2, 19), (19, .lload 8, 2, 21), (21, .lor, 1, 22), (22, .bipush 31, 2, 24), (24, .lushr, 1, 25), (25, .lconst 0, 1, 26), (26, .lcmp, 1, 27), (27, .ifCond .eq 18, 3, 30), (30, .lload_n 2, 1, 31), (31, .lconst 0, 1, 32), (32, .lcmp, 1, 33), (33, .ifCond .eq 12, 3, 36), (36, .lload 4, 2, 38), (38, .lload_n 2, 1, 39), (39, .ldiv, 1, 40), (40, .lload_n 0, 1, 41), (41, .lcmp, 1, 42), (42, .ifCond .ne 6, 3, 45), (45, .lload 4, 2, 47), (47, .lreturn, 1, 48), (48, .ldc2_w 125, 3, 51), (51, .lreturn, 1, 52)] (by decide +kernel)
def dc23 := @own_u jdk_2316_method_48_code [(0, .aload_n 0, 1, 1), (1, .bipush 9, 2, 3), (3, .invokevirtual 353, 3, 6), (6, .invokevirtual 357, 3, 9), (9, .astore_n 1, 1, 10), (10, .aload_n 1, 1, 11), (11, .getstatic 361, 3, 14), (14, .invokevirtual 365, 3, 17), (17, .astore_n 2, 1, 18), (18, .aload_n 2, 1, 19), (19, .iconst 0, 1, 20), (20, .aaload, 1, 21), (21, .invokevirtual 371, 3, 24), (24, .bipush 63, 2, 26), (26, .if_icmp .le 31, 3, 29), (57, .aload_n 2, 1, 58), (58, .iconst 0, 1, 59), (59, .aaload, 1, 60), (60, .invokevirtual 376, 3, 63), (63, .aload_n 2, 1, 64), (64, .iconst 1, 1, 65), (65, .aaload, 1, 66), (66, .invokevirtual 379, 3, 69), (69, .i2l, 1, 70), (70, .invokestatic 176, 3, 73), (73, .areturn, 1, 74)] (by decide +kernel)
def dc24 := @own_u jdk_17_method_67_code [(0, .iload_n 1, 1, 1), (1, .ifCond .ne 12, 3, 4), (13, .aload_n 0, 1, 14), (14, .aload_n 0, 1, 15), (15, .getfield 17, 3, 18), (18, .i2l, 1, 19), (19, .iload_n 1, 1, 20), (20, .i2l, 1, 21), (21, .lsub, 1, 22), (22, .invokevirtual 325, 3, 25), (25, .istore_n 2, 1, 26), (26, .new 3, 3, 29), (29, .dup, 1, 30), (30, .aload_n 0, 1, 31), (31, .getfield 28, 3, 34), (34, .aload_n 0, 1, 35), (35, .getfield 24, 3, 38), (38, .iload_n 2, 1, 39), (39, .iconst 0, 1, 40), (40, .invokespecial 243, 3, 43), (43, .astore_n 3, 1, 44), (44, .aload_n 3, 1, 45), (45, .getfield 17, 3, 48), (48, .ifCond .ge 13, 3, 51), (61, .aload_n 3, 1, 62), (62, .areturn, 1, 63)] (by decide +kernel)
def dc25 := @own_u jdk_17_method_81_code [(0, .aload_n 0, 1, 1), (1, .iconst 0, 1, 2), (2, .bipush 7, 2, 4), (4, .invokevirtual 419, 3, 7), (7, .invokevirtual 302, 3, 10), (10, .areturn, 1, 11)] (by decide +kernel)
def dc26 := @own_u jdk_17_method_64_code [(0, .iload_n 2, 1, 1), (1, .ifCond .lt 9, 3, 4), (4, .iload_n 2, 1, 5), (5, .bipush 7, 2, 7), (7, .if_icmp .le 14, 3, 10), (21, .aload_n 0, 1, 22), (22, .getfield 17, 3, 25), (25, .istore_n 3, 1, 26), (26, .iload_n 1, 1, 27), (27, .iload_n 3, 1, 28), (28, .if_icmp .ne 5, 3, 31), (31, .aload_n 0, 1, 32), (32, .areturn, 1, 33)] (by decide +kernel)
def dc27 := @own_u jdk_17_method_99_code [(0, .aload_n 0, 1, 1), (1, .getfield 28, 3, 4), (4, .ifnonnull 11, 3, 7), (7, .aload_n 0, 1, 8), (8, .getfield 24, 3, 11), (11, .invokestatic 193, 3, 14), (14, .areturn, 1, 15), (15, .aload_n 0, 1, 16), (16, .getfield 28, 3, 19), (19, .areturn, 1, 20)] (by decide +kernel)
def dc28 := @own_u jdk_2097_method_29_code [(0, .lload_n 0, 1, 1), (1, .lconst 0, 1, 2), (2, .lcmp, 1, 3), (3, .ifCond .ne 7, 3, 6), (10, .lload_n 0, 1, 11), (11, .lconst 0, 1, 12), (12, .lcmp, 1, 13), (13, .ifCond .le 18, 3, 16), (16, .lload_n 0, 1, 17), (17, .ldc2_w 345, 3, 20), (20, .lcmp, 1, 21), (21, .ifCond .gt 10, 3, 24), (31, .lload_n 0, 1, 32), (32, .lconst 0, 1, 33), (33, .lcmp, 1, 34), (34, .ifCond .ge 19, 3, 37), (53, .new 23, 3, 56), (56, .dup, 1, 57), (57, .lload_n 0, 1, 58), (58, .invokespecial 356, 3, 61), (61, .areturn, 1, 62)] (by decide +kernel)
def dc29 := @own_u jdk_2097_method_30_code [(0, .aload_n 0, 1, 1), (1, .invokespecial 3, 3, 4), (4, .lload_n 1, 1, 5), (5, .lconst 0, 1, 6), (6, .lcmp, 1, 7), (7, .ifCond .ge 14, 3, 10), (21, .aload_n 0, 1, 22), (22, .iconst 1, 1, 23), (23, .putfield 32, 3, 26), (26, .lload_n 1, 1, 27), (27, .bipush 32, 2, 29), (29, .lushr, 1, 30), (30, .l2i, 1, 31), (31, .istore_n 3, 1, 32), (32, .iload_n 3, 1, 33), (33, .ifCond .ne 21, 3, 36), (36, .aload_n 0, 1, 37), (37, .iconst 1, 1, 38), (38, .newarray .int, 2, 40), (40, .putfield 28, 3, 43), (43, .aload_n 0, 1, 44), (44, .getfield 28, 3, 47), (47, .iconst 0, 1, 48), (48, .lload_n 1, 1, 49), (49, .l2i, 1, 50), (50, .iastore, 1, 51), (51, .goto 25, 3, 54), (54, .aload_n 0, 1, 55), (55, .iconst 2, 1, 56), (56, .newarray .int, 2, 58), (58, .putfield 28, 3, 61), (61, .aload_n 0, 1, 62), (62, .getfield 28, 3, 65), (65, .iconst 0, 1, 66), (66, .iload_n 3, 1, 67), (67, .iastore, 1, 68), (68, .aload_n 0, 1, 69), (69, .getfield 28, 3, 72), (72, .iconst 1, 1, 73), (73, .lload_n 1, 1, 74), (74, .l2i, 1, 75), (75, .iastore, 1, 76), (76, .return_, 1, 77)] (by decide +kernel)
def dc30 := @own_u jdk_2097_method_63_code [(0, .aload_n 1, 1, 1), (1, .getfield 28, 3, 4), (4, .arraylength, 1, 5), (5, .bipush 80, 2, 7), (7, .if_icmp .lt 19, 3, 10), (26, .aload_n 0, 1, 27), (27, .aload_n 1, 1, 28), (28, .invokevirtual 551, 3, 31), (31, .areturn, 1, 32)] (by decide +kernel)
def dc31 := @own_u jdk_2097_method_64_code [(0, .iconst 2, 1, 1), (1, .anewarray 23, 3, 4), (4, .astore_n 2, 1, 5), (5, .new 541, 3, 8), (8, .dup, 1, 9), (9, .invokespecial 543, 3, 12), (12, .astore_n 3, 1, 13), (13, .new 541, 3, 16), (16, .dup, 1, 17), (17, .aload_n 0, 1, 18), (18, .getfield 28, 3, 21), (21, .invokespecial 544, 3, 24), (24, .astore 4, 2, 26), (26, .new 541, 3, 29), (29, .dup, 1, 30), (30, .aload_n 1, 1, 31), (31, .getfield 28, 3, 34), (34, .invokespecial 544, 3, 37), (37, .astore 5, 2, 39), (39, .aload 4, 2, 41), (41, .aload 5, 2, 43), (43, .aload_n 3, 1, 44), (44, .invokevirtual 558, 3, 47), (47, .astore 6, 2, 49), (49, .aload_n 2, 1, 50), (50, .iconst 0, 1, 51), (51, .aload_n 3, 1, 52), (52, .aload_n 0, 1, 53), (53, .getfield 32, 3, 56), (56, .aload_n 1, 1, 57), (57, .getfield 32, 3, 60), (60, .if_icmp .ne 7, 3, 63), (63, .iconst 1, 1, 64), (64, .goto 4, 3, 67), (68, .invokevirtual 548, 3, 71), (71, .aastore, 1, 72), (72, .aload_n 2, 1, 73), (73, .iconst 1, 1, 74), (74, .aload 6, 2, 76), (76, .aload_n 0, 1, 77), (77, .getfield 32, 3, 80), (80, .invokevirtual 548, 3, 83), (83, .aastore, 1, 84), (84, .aload_n 2, 1, 85), (85, .areturn, 1, 86)] (by decide +kernel)
def dc32 := @own_u jdk_2101_method_1_code [(0, .aload_n 0, 1, 1), (1, .invokespecial 5, 3, 4), (4, .aload_n 0, 1, 5), (5, .iconst 0, 1, 6), (6, .putfield 11, 3, 9), (9, .aload_n 0, 1, 10), (10, .iconst 1, 1, 11), (11, .newarray .int, 2, 13), (13, .putfield 17, 3, 16), (16, .aload_n 0, 1, 17), (17, .iconst 0, 1, 18), (18, .putfield 21, 3, 21), (21, .return_, 1, 22)] (by decide +kernel)
def dc33 := @own_u jdk_2101_method_3_code [(0, .aload_n 0, 1, 1), (1, .invokespecial 5, 3, 4), (4, .aload_n 0, 1, 5), (5, .iconst 0, 1, 6), (6, .putfield 11, 3, 9), (9, .aload_n 0, 1, 10), (10, .aload_n 1, 1, 11), (11, .putfield 17, 3, 14), (14, .aload_n 0, 1, 15), (15, .aload_n 1, 1, 16), (16, .arraylength, 1, 17), (17, .putfield 21, 3, 20), (20, .return_, 1, 21)] (by decide +kernel)
def dc34 := @own_u jdk_2101_method_56_code [(0, .aload_n 0, 1, 1), (1, .aload_n 1, 1, 2), (2, .aload_n 2, 1, 3), (3, .iconst 1, 1, 4), (4, .invokevirtual 163, 3, 7), (7, .areturn, 1, 8)] (by decide +kernel)
def dc35 := @own_u jdk_2101_method_57_code [(0, .aload_n 1, 1, 1), (1, .getfield 21, 3, 4), (4, .ifCond .ne 13, 3, 7), (17, .aload_n 0, 1, 18), (18, .getfield 21, 3, 21), (21, .ifCond .ne 29, 3, 24), (50, .aload_n 0, 1, 51), (51, .aload_n 1, 1, 52), (52, .invokevirtual 142, 3, 55), (55, .istore 4, 2, 57), (57, .iload 4, 2, 59), (59, .ifCond .ge 30, 3, 62), (89, .iload 4, 2, 91), (91, .ifCond .ne 36, 3, 94), (127, .aload_n 2, 1, 128), (128, .invokevirtual 149, 3, 131), (131, .aload_n 1, 1, 132), (132, .getfield 21, 3, 135), (135, .iconst 1, 1, 136), (136, .if_icmp .ne 48, 3, 139), (139, .aload_n 0, 1, 140), (140, .aload_n 1, 1, 141), (141, .getfield 17, 3, 144), (144, .aload_n 1, 1, 145), (145, .getfield 11, 3, 148), (148, .iaload, 1, 149), (149, .aload_n 2, 1, 150), (150, .invokevirtual 178, 3, 153), (153, .istore 5, 2, 155), (155, .iload_n 3, 1, 156), (156, .ifCond .eq 26, 3, 159), (159, .iload 5, 2, 161), (161, .ifCond .ne 11, 3, 164), (164, .new 12, 3, 167), (167, .dup, 1, 168), (168, .invokespecial 177, 3, 171), (171, .areturn, 1, 172)] (by decide +kernel)
def dc36 := @own_u jdk_2101_method_15_code [(0, .aload_n 1, 1, 1), (1, .getfield 21, 3, 4), (4, .istore_n 2, 1, 5), (5, .aload_n 0, 1, 6), (6, .getfield 21, 3, 9), (9, .iload_n 2, 1, 10), (10, .if_icmp .ge 5, 3, 13), (15, .aload_n 0, 1, 16), (16, .getfield 21, 3, 19), (19, .iload_n 2, 1, 20), (20, .if_icmp .le 5, 3, 23), (23, .iconst 1, 1, 24), (24, .ireturn, 1, 25)] (by decide +kernel)
def dc37 := @own_u jdk_2101_method_13_code [(0, .aload_n 0, 1, 1), (1, .aload_n 0, 1, 2), (2, .iconst 0, 1, 3), (3, .dup_x1, 1, 4), (4, .putfield 21, 3, 7), (7, .putfield 11, 3, 10), (10, .iconst 0, 1, 11), (11, .istore_n 1, 1, 12), (12, .aload_n 0, 1, 13), (13, .getfield 17, 3, 16), (16, .arraylength, 1, 17), (17, .istore_n 2, 1, 18), (18, .iload_n 1, 1, 19), (19, .iload_n 2, 1, 20), (20, .if_icmp .ge 16, 3, 23), (23, .aload_n 0, 1, 24), (24, .getfield 17, 3, 27), (27, .iload_n 1, 1, 28), (28, .iconst 0, 1, 29), (29, .iastore, 1, 30), (30, .iinc 1 1, 3, 33), (33, .goto (-15), 3, 36), (36, .return_, 1, 37)] (by decide +kernel)
def dc38 := @own_u jdk_2101_method_53_code [(0, .iload_n 1, 1, 1), (1, .i2l, 1, 2), (2, .ldc2_w 52, 3, 5), (5, .land, 1, 6), (6, .lstore_n 3, 1, 7), (7, .aload_n 0, 1, 8), (8, .getfield 21, 3, 11), (11, .iconst 1, 1, 12), (12, .if_icmp .ne 67, 3, 15), (79, .aload_n 2, 1, 80), (80, .getfield 17, 3, 83), (83, .arraylength, 1, 84), (84, .aload_n 0, 1, 85), (85, .getfield 21, 3, 88), (88, .if_icmp .ge 13, 3, 91), (91, .aload_n 2, 1, 92), (92, .aload_n 0, 1, 93), (93, .getfield 21, 3, 96), (96, .newarray .int, 2, 98), (98, .putfield 17, 3, 101), (101, .aload_n 2, 1, 102), (102, .iconst 0, 1, 103), (103, .putfield 11, 3, 106), (106, .aload_n 2, 1, 107), (107, .aload_n 0, 1, 108), (108, .getfield 21, 3, 111), (111, .putfield 21, 3, 114), (114, .iload_n 1, 1, 115), (115, .invokestatic 152, 3, 118), (118, .istore 5, 2, 120), (120, .aload_n 0, 1, 121), (121, .getfield 17, 3, 124), (124, .aload_n 0, 1, 125), (125, .getfield 11, 3, 128), (128, .iaload, 1, 129), (129, .istore 6, 2, 131), (131, .iload 6, 2, 133), (133, .i2l, 1, 134), (134, .ldc2_w 52, 3, 137), (137, .land, 1, 138), (138, .lstore 7, 2, 140), (140, .lload 7, 2, 142), (142, .lload_n 3, 1, 143), (143, .lcmp, 1, 144), (144, .ifCond .ge 13, 3, 147), (147, .aload_n 2, 1, 148), (148, .getfield 17, 3, 151), (151, .iconst 0, 1, 152), (152, .iconst 0, 1, 153), (153, .iastore, 1, 154), (154, .goto 38, 3, 157), (157, .aload_n 2, 1, 158), (158, .getfield 17, 3, 161), (161, .iconst 0, 1, 162), (162, .lload 7, 2, 164), (164, .lload_n 3, 1, 165), (165, .ldiv, 1, 166), (166, .l2i, 1, 167), (167, .iastore, 1, 168), (168, .lload 7, 2, 170), (170, .aload_n 2, 1, 171), (171, .getfield 17, 3, 174), (174, .iconst 0, 1, 175), (175, .iaload, 1, 176), (176, .i2l, 1, 177), (177, .lload_n 3, 1, 178), (178, .lmul, 1, 179), (179, .lsub, 1, 180), (180, .l2i, 1, 181), (181, .istore 6, 2, 183), (183, .iload 6, 2, 185), (185, .i2l, 1, 186), (186, .ldc2_w 52, 3, 189), (189, .land, 1, 190), (190, .lstore 7, 2, 192), (192, .aload_n 0, 1, 193), (193, .getfield 21, 3, 196), (196, .istore 9, 2, 198), (198, .iinc 9 (-1), 3, 201), (201, .iload 9, 2, 203), (203, .ifCond .le 112, 3, 206), (206, .lload 7, 2, 208), (208, .bipush 32, 2, 210), (210, .lshl, 1, 211), (211, .aload_n 0, 1, 212), (212, .getfield 17, 3, 215), (215, .aload_n 0, 1, 216), (216, .getfield 11, 3, 219), (219, .aload_n 0, 1, 220), (220, .getfield 21, 3, 223), (223, .iadd, 1, 224), (224, .iload 9, 2, 226), (226, .isub, 1, 227), (227, .iaload, 1, 228), (228, .i2l, 1, 229), (229, .ldc2_w 52, 3, 232), (232, .land, 1, 233), (233, .lor, 1, 234), (234, .lstore 10, 2, 236), (236, .lload 10, 2, 238), (238, .lconst 0, 1, 239), (239, .lcmp, 1, 240), (240, .ifCond .lt 24, 3, 243), (243, .lload 10, 2, 245), (245, .lload_n 3, 1, 246), (246, .ldiv, 1, 247), (247, .l2i, 1, 248), (248, .istore 12, 2, 250), (250, .lload 10, 2, 252), (252, .iload 12, 2, 254), (254, .i2l, 1, 255), (255, .lload_n 3, 1, 256), (256, .lmul, 1, 257), (257, .lsub, 1, 258), (258, .l2i, 1, 259), (259, .istore 6, 2, 261), (261, .goto 28, 3, 264), (289, .aload_n 2, 1, 290), (290, .getfield 17, 3, 293), (293, .aload_n 0, 1, 294), (294, .getfield 21, 3, 297), (297, .iload 9, 2, 299), (299, .isub, 1, 300), (300, .iload 12, 2, 302), (302, .iastore, 1, 303), (303, .iload 6, 2, 305), (305, .i2l, 1, 306), (306, .ldc2_w 52, 3, 309), (309, .land, 1, 310), (310, .lstore 7, 2, 312), (312, .goto (-114), 3, 315), (315, .aload_n 2, 1, 316), (316, .invokevirtual 64, 3, 319), (319, .iload 5, 2, 321), (321, .ifCond .le 8, 3, 324), (324, .iload 6, 2, 326), (326, .iload_n 1, 1, 327), (327, .irem, 1, 328), (328, .ireturn, 1, 329)] (by decide +kernel)
def dc39 := @own_u jdk_33_method_47_code [(0, .iload_n 0, 1, 1), (1, .ifCond .gt 14, 3, 4), (4, .iload_n 0, 1, 5), (5, .ifCond .ne 8, 3, 8), (8, .bipush 32, 2, 10), (10, .goto 4, 3, 13), (13, .iconst 0, 1, 14), (14, .ireturn, 1, 15), (15, .bipush 31, 2, 17), (17, .istore_n 1, 1, 18), (18, .iload_n 0, 1, 19), (19, .ldc_w 264, 3, 22), (22, .if_icmp .lt 11, 3, 25), (25, .iinc 1 (-16), 3, 28), (28, .iload_n 0, 1, 29), (29, .bipush 16, 2, 31), (31, .iushr, 1, 32), (32, .istore_n 0, 1, 33), (33, .iload_n 0, 1, 34), (34, .sipush 256, 3, 37), (37, .if_icmp .lt 11, 3, 40), (40, .iinc 1 (-8), 3, 43), (43, .iload_n 0, 1, 44), (44, .bipush 8, 2, 46), (46, .iushr, 1, 47), (47, .istore_n 0, 1, 48), (48, .iload_n 0, 1, 49), (49, .bipush 16, 2, 51), (51, .if_icmp .lt 10, 3, 54), (54, .iinc 1 (-4), 3, 57), (57, .iload_n 0, 1, 58), (58, .iconst 4, 1, 59), (59, .iushr, 1, 60), (60, .istore_n 0, 1, 61), (61, .iload_n 0, 1, 62), (62, .iconst 4, 1, 63), (63, .if_icmp .lt 10, 3, 66), (66, .iinc 1 (-2), 3, 69), (69, .iload_n 0, 1, 70), (70, .iconst 2, 1, 71), (71, .iushr, 1, 72), (72, .istore_n 0, 1, 73), (73, .iload_n 1, 1, 74), (74, .iload_n 0, 1, 75), (75, .iconst 1, 1, 76), (76, .iushr, 1, 77), (77, .isub, 1, 78), (78, .ireturn, 1, 79)] (by decide +kernel)
def dc40 := @own_u jdk_2101_method_21_code [(0, .aload_n 0, 1, 1), (1, .getfield 21, 3, 4), (4, .ifCond .ne 9, 3, 7), (13, .aload_n 0, 1, 14), (14, .getfield 11, 3, 17), (17, .istore_n 1, 1, 18), (18, .aload_n 0, 1, 19), (19, .getfield 17, 3, 22), (22, .iload_n 1, 1, 23), (23, .iaload, 1, 24), (24, .ifCond .eq 4, 3, 27), (27, .return_, 1, 28), (28, .iload_n 1, 1, 29), (29, .aload_n 0, 1, 30), (30, .getfield 21, 3, 33), (33, .iadd, 1, 34), (34, .istore_n 2, 1, 35), (35, .iinc 1 1, 3, 38), (38, .iload_n 1, 1, 39), (39, .iload_n 2, 1, 40), (40, .if_icmp .ge 12, 3, 43), (43, .aload_n 0, 1, 44), (44, .getfield 17, 3, 47), (47, .iload_n 1, 1, 48), (48, .iaload, 1, 49), (49, .ifCond .eq (-14), 3, 52), (52, .iload_n 1, 1, 53), (53, .aload_n 0, 1, 54), (54, .getfield 11, 3, 57), (57, .isub, 1, 58), (58, .istore_n 3, 1, 59), (59, .aload_n 0, 1, 60), (60, .dup, 1, 61), (61, .getfield 21, 3, 64), (64, .iload_n 3, 1, 65), (65, .isub, 1, 66), (66, .putfield 21, 3, 69), (69, .aload_n 0, 1, 70), (70, .aload_n 0, 1, 71), (71, .getfield 21, 3, 74), (74, .ifCond .ne 7, 3, 77), (81, .aload_n 0, 1, 82), (82, .getfield 11, 3, 85), (85, .iload_n 3, 1, 86), (86, .iadd, 1, 87), (87, .putfield 11, 3, 90), (90, .return_, 1, 91)] (by decide +kernel)
def dc41 := @own_u jdk_2101_method_9_code [(0, .aload_n 0, 1, 1), (1, .getfield 21, 3, 4), (4, .ifCond .eq 7, 3, 7), (7, .iload_n 1, 1, 8), (8, .ifCond .ne 7, 3, 11), (11, .getstatic 54, 3, 14), (14, .areturn, 1, 15), (15, .new 1, 3, 18), (18, .dup, 1, 19), (19, .aload_n 0, 1, 20), (20, .invokevirtual 58, 3, 23), (23, .iload_n 1, 1, 24), (24, .invokespecial 62, 3, 27), (27, .areturn, 1, 28)] (by decide +kernel)
def dc42 := @own_u jdk_2101_method_7_code [(0, .aload_n 0, 1, 1), (1, .getfield 11, 3, 4), (4, .ifCond .gt 15, 3, 7), (7, .aload_n 0, 1, 8), (8, .getfield 17, 3, 11), (11, .arraylength, 1, 12), (12, .aload_n 0, 1, 13), (13, .getfield 21, 3, 16), (16, .if_icmp .eq 48, 3, 19), (19, .aload_n 0, 1, 20), (20, .getfield 17, 3, 23), (23, .aload_n 0, 1, 24), (24, .getfield 11, 3, 27), (27, .aload_n 0, 1, 28), (28, .getfield 11, 3, 31), (31, .aload_n 0, 1, 32), (32, .getfield 21, 3, 35), (35, .iadd, 1, 36), (36, .invokestatic 33, 3, 39), (39, .astore_n 1, 1, 40), (40, .aload_n 0, 1, 41), (41, .getfield 17, 3, 44), (44, .iconst 0, 1, 45), (45, .invokestatic 37, 3, 48), (48, .aload_n 0, 1, 49), (49, .iconst 0, 1, 50), (50, .putfield 11, 3, 53), (53, .aload_n 0, 1, 54), (54, .aload_n 1, 1, 55), (55, .arraylength, 1, 56), (56, .putfield 21, 3, 59), (59, .aload_n 0, 1, 60), (60, .aload_n 1, 1, 61), (61, .putfield 17, 3, 64), (64, .aload_n 0, 1, 65), (65, .getfield 17, 3, 68), (68, .areturn, 1, 69)] (by decide +kernel)
def dc43 := @own_u jdk_65_method_136_code [(0, .iload_n 1, 1, 1), (1, .ifCond .ne 9, 3, 4), (10, .aload_n 0, 1, 11), (11, .iload_n 1, 1, 12), (12, .iload_n 2, 1, 13), (13, .invokestatic 351, 3, 16), (16, .areturn, 1, 17)] (by decide +kernel)
def dc44 := @own_u jdk_65_method_137_code [(0, .iload_n 1, 1, 1), (1, .iload_n 2, 1, 2), (2, .invokestatic 343, 3, 5), (5, .iload_n 2, 1, 6), (6, .iload_n 1, 1, 7), (7, .isub, 1, 8), (8, .istore_n 3, 1, 9), (9, .iload_n 3, 1, 10), (10, .newarray .int, 2, 12), (12, .astore 4, 2, 14), (14, .aload_n 0, 1, 15), (15, .iload_n 1, 1, 16), (16, .aload 4, 2, 18), (18, .iconst 0, 1, 19), (19, .aload_n 0, 1, 20), (20, .arraylength, 1, 21), (21, .iload_n 1, 1, 22), (22, .isub, 1, 23), (23, .iload_n 3, 1, 24), (24, .invokestatic 304, 3, 27), (27, .invokestatic 150, 3, 30), (30, .aload 4, 2, 32), (32, .areturn, 1, 33)] (by decide +kernel)
def dc45 := @own_u jdk_65_method_131_code [(0, .iload_n 1, 1, 1), (1, .iload_n 0, 1, 2), (2, .if_icmp .ge 35, 3, 5), (37, .return_, 1, 38)] (by decide +kernel)
def dc46 := @own_u jdk_29_method_69_code [(0, .iload_n 0, 1, 1), (1, .iload_n 1, 1, 2), (2, .if_icmp .gt 7, 3, 5), (5, .iload_n 0, 1, 6), (6, .goto 4, 3, 9), (10, .ireturn, 1, 11)] (by decide +kernel)
def dc47 := @own_u jdk_65_method_103_code [(0, .iconst 0, 1, 1), (1, .istore_n 2, 1, 2), (2, .aload_n 0, 1, 3), (3, .arraylength, 1, 4), (4, .istore_n 3, 1, 5), (5, .iload_n 2, 1, 6), (6, .iload_n 3, 1, 7), (7, .if_icmp .ge 13, 3, 10), (10, .aload_n 0, 1, 11), (11, .iload_n 2, 1, 12), (12, .iload_n 1, 1, 13), (13, .iastore, 1, 14), (14, .iinc 2 1, 3, 17), (17, .goto (-12), 3, 20), (20, .return_, 1, 21)] (by decide +kernel)
def dc48 := @own_u jdk_2097_method_25_code [(0, .aload_n 0, 1, 1), (1, .invokespecial 3, 3, 4), (4, .aload_n 0, 1, 5), (5, .aload_n 1, 1, 6), (6, .arraylength, 1, 7), (7, .ifCond .ne 7, 3, 10), (14, .iload_n 2, 1, 15), (15, .putfield 32, 3, 18), (18, .aload_n 0, 1, 19), (19, .aload_n 1, 1, 20), (20, .putfield 28, 3, 23), (23, .aload_n 0, 1, 24), (24, .getfield 28, 3, 27), (27, .arraylength, 1, 28), (28, .ldc 43, 2, 30), (30, .if_icmp .lt 7, 3, 33), (37, .return_, 1, 38)] (by decide +kernel)
def dc49 := @own_u jdk_2097_method_118_code [(0, .aload_n 0, 1, 1), (1, .getfield 747, 3, 4), (4, .iconst 1, 1, 5), (5, .isub, 1, 6), (6, .istore_n 1, 1, 7), (7, .iload_n 1, 1, 8), (8, .iconst (-1), 1, 9), (9, .if_icmp .ne 129, 3, 12), (12, .aload_n 0, 1, 13), (13, .getfield 28, 3, 16), (16, .astore_n 2, 1, 17), (17, .aload_n 2, 1, 18), (18, .arraylength, 1, 19), (19, .istore_n 3, 1, 20), (20, .iload_n 3, 1, 21), (21, .ifCond .ne 8, 3, 24), (29, .iload_n 3, 1, 30), (30, .iconst 1, 1, 31), (31, .isub, 1, 32), (32, .iconst 5, 1, 33), (33, .ishl, 1, 34), (34, .aload_n 0, 1, 35), (35, .getfield 28, 3, 38), (38, .iconst 0, 1, 39), (39, .iaload, 1, 40), (40, .invokestatic 605, 3, 43), (43, .iadd, 1, 44), (44, .istore 4, 2, 46), (46, .aload_n 0, 1, 47), (47, .getfield 32, 3, 50), (50, .ifCond .ge 78, 3, 53), (128, .iload 4, 2, 130), (130, .istore_n 1, 1, 131), (131, .aload_n 0, 1, 132), (132, .iload_n 1, 1, 133), (133, .iconst 1, 1, 134), (134, .iadd, 1, 135), (135, .putfield 747, 3, 138), (138, .iload_n 1, 1, 139), (139, .ireturn, 1, 140)] (by decide +kernel)
def dc50 := @own_u jdk_2097_method_74_code [(0, .bipush 32, 2, 2), (2, .iload_n 0, 1, 3), (3, .invokestatic 602, 3, 6), (6, .isub, 1, 7), (7, .ireturn, 1, 8)] (by decide +kernel)
def dc51 := @own_u jdk_2097_method_136_code [(0, .lconst 0, 1, 1), (1, .lstore_n 1, 1, 2), (2, .iconst 1, 1, 3), (3, .istore_n 3, 1, 4), (4, .iload_n 3, 1, 5), (5, .ifCond .lt 25, 3, 8), (8, .lload_n 1, 1, 9), (9, .bipush 32, 2, 11), (11, .lshl, 1, 12), (12, .aload_n 0, 1, 13), (13, .iload_n 3, 1, 14), (14, .invokevirtual 736, 3, 17), (17, .i2l, 1, 18), (18, .ldc2_w 130, 3, 21), (21, .land, 1, 22), (22, .ladd, 1, 23), (23, .lstore_n 1, 1, 24), (24, .iinc 3 (-1), 3, 27), (27, .goto (-23), 3, 30), (30, .lload_n 1, 1, 31), (31, .lreturn, 1, 32)] (by decide +kernel)
def dc52 := @own_u jdk_2097_method_148_code [(0, .iload_n 1, 1, 1), (1, .ifCond .ge 5, 3, 4), (6, .iload_n 1, 1, 7), (7, .aload_n 0, 1, 8), (8, .getfield 28, 3, 11), (11, .arraylength, 1, 12), (12, .if_icmp .lt 8, 3, 15), (15, .aload_n 0, 1, 16), (16, .invokevirtual 860, 3, 19), (19, .ireturn, 1, 20), (20, .aload_n 0, 1, 21), (21, .getfield 28, 3, 24), (24, .aload_n 0, 1, 25), (25, .getfield 28, 3, 28), (28, .arraylength, 1, 29), (29, .iload_n 1, 1, 30), (30, .isub, 1, 31), (31, .iconst 1, 1, 32), (32, .isub, 1, 33), (33, .iaload, 1, 34), (34, .istore_n 2, 1, 35), (35, .aload_n 0, 1, 36), (36, .getfield 32, 3, 39), (39, .ifCond .lt 7, 3, 42), (42, .iload_n 2, 1, 43), (43, .goto 19, 3, 46), (62, .ireturn, 1, 63)] (by decide +kernel)
def dc53 := @own_u jdk_2097_method_147_code [(0, .aload_n 0, 1, 1), (1, .getfield 32, 3, 4), (4, .ifCond .ge 7, 3, 7), (11, .iconst 0, 1, 12), (12, .ireturn, 1, 13)] (by decide +kernel)
def dc54 := @own_u jdk_2097_method_135_code [(0, .iconst 0, 1, 1), (1, .istore_n 1, 1, 2), (2, .aload_n 0, 1, 3), (3, .iconst 0, 1, 4), (4, .invokevirtual 736, 3, 7), (7, .istore_n 1, 1, 8), (8, .iload_n 1, 1, 9), (9, .ireturn, 1, 10)] (by decide +kernel)
def dc55 := @own_u jdk_2316_method_5_code [(0, .lload_n 0, 1, 1), (1, .lload_n 2, 1, 2), (2, .ldc2_w 16, 3, 5), (5, .invokestatic 18, 3, 8), (8, .invokestatic 22, 3, 11), (11, .lstore 4, 2, 13), (13, .lload_n 2, 1, 14), (14, .ldc2_w 16, 3, 17), (17, .invokestatic 25, 3, 20), (20, .l2i, 1, 21), (21, .istore 6, 2, 23), (23, .lload 4, 2, 25), (25, .iload 6, 2, 27), (27, .invokestatic 10, 3, 30), (30, .areturn, 1, 31)] (by decide +kernel)
def dc56 := @own_u jdk_29_method_49_code [(0, .lload_n 0, 1, 1), (1, .lload_n 2, 1, 2), (2, .ldiv, 1, 3), (3, .lstore 4, 2, 5), (5, .lload_n 0, 1, 6), (6, .lload_n 2, 1, 7), (7, .lxor, 1, 8), (8, .lconst 0, 1, 9), (9, .lcmp, 1, 10), (10, .ifCond .ge 17, 3, 13), (27, .lload 4, 2, 29), (29, .lreturn, 1, 30)] (by decide +kernel)
def dc57 := @own_u jdk_29_method_25_code [(0, .lload_n 0, 1, 1), (1, .lload_n 2, 1, 2), (2, .ladd, 1, 3), (3, .lstore 4, 2, 5), (5, .lload_n 0, 1, 6), (6, .lload 4, 2, 8), (8, .lxor, 1, 9), (9, .lload_n 2, 1, 10), (10, .lload 4, 2, 12), (12, .lxor, 1, 13), (13, .land, 1, 14), (14, .lconst 0, 1, 15), (15, .lcmp, 1, 16), (16, .ifCond .ge 13, 3, 19), (29, .lload 4, 2, 31), (31, .lreturn, 1, 32)] (by decide +kernel)
def dc58 := @own_u jdk_29_method_52_code [(0, .lload_n 0, 1, 1), (1, .lload_n 2, 1, 2), (2, .lrem, 1, 3), (3, .lstore 4, 2, 5), (5, .lload_n 0, 1, 6), (6, .lload_n 2, 1, 7), (7, .lxor, 1, 8), (8, .lconst 0, 1, 9), (9, .lcmp, 1, 10), (10, .ifCond .ge 15, 3, 13), (25, .lload 4, 2, 27), (27, .lreturn, 1, 28)] (by decide +kernel)
def dc59 := @own_u jdk_2316_method_16_code [(0, .lload_n 0, 1, 1), (1, .iload_n 2, 1, 2), (2, .i2l, 1, 3), (3, .lor, 1, 4), (4, .lconst 0, 1, 5), (5, .lcmp, 1, 6), (6, .ifCond .ne 7, 3, 9), (13, .new 11, 3, 16), (16, .dup, 1, 17), (17, .lload_n 0, 1, 18), (18, .iload_n 2, 1, 19), (19, .invokespecial 215, 3, 22), (22, .areturn, 1, 23)] (by decide +kernel)
def dc60 := @own_u jdk_2316_method_17_code [(0, .aload_n 0, 1, 1), (1, .invokespecial 218, 3, 4), (4, .aload_n 0, 1, 5), (5, .lload_n 1, 1, 6), (6, .putfield 221, 3, 9), (9, .aload_n 0, 1, 10), (10, .iload_n 3, 1, 11), (11, .putfield 224, 3, 14), (14, .return_, 1, 15)] (by decide +kernel)
def dc61 := @own_u jdk_2097_method_44_code [(0, .lload_n 1, 1, 1), (1, .lconst 0, 1, 2), (2, .lcmp, 1, 3), (3, .ifCond .eq 10, 3, 6), (6, .aload_n 0, 1, 7), (7, .getfield 32, 3, 10), (10, .ifCond .ne 7, 3, 13), (17, .lload_n 1, 1, 18), (18, .ldc2_w 439, 3, 21), (21, .lcmp, 1, 22), (22, .ifCond .ne 12, 3, 25), (34, .lload_n 1, 1, 35), (35, .lconst 0, 1, 36), (36, .lcmp, 1, 37), (37, .ifCond .le 10, 3, 40), (40, .aload_n 0, 1, 41), (41, .getfield 32, 3, 44), (44, .goto 8, 3, 47), (52, .istore_n 3, 1, 53), (53, .lload_n 1, 1, 54), (54, .lconst 0, 1, 55), (55, .lcmp, 1, 56), (56, .ifCond .ge 6, 3, 59), (62, .lload_n 1, 1, 63), (63, .bipush 32, 2, 65), (65, .lushr, 1, 66), (66, .lstore 4, 2, 68), (68, .lload_n 1, 1, 69), (69, .ldc2_w 130, 3, 72), (72, .land, 1, 73), (73, .lstore 6, 2, 75), (75, .aload_n 0, 1, 76), (76, .getfield 28, 3, 79), (79, .arraylength, 1, 80), (80, .istore 8, 2, 82), (82, .aload_n 0, 1, 83), (83, .getfield 28, 3, 86), (86, .astore 9, 2, 88), (88, .lload 4, 2, 90), (90, .lconst 0, 1, 91), (91, .lcmp, 1, 92), (92, .ifCond .ne 12, 3, 95), (104, .iload 8, 2, 106), (106, .iconst 2, 1, 107), (107, .iadd, 1, 108), (108, .newarray .int, 2, 110), (110, .astore 10, 2, 112), (112, .lconst 0, 1, 113), (113, .lstore 11, 2, 115), (115, .aload 10, 2, 117), (117, .arraylength, 1, 118), (118, .iconst 1, 1, 119), (119, .isub, 1, 120), (120, .istore 13, 2, 122), (122, .iload 8, 2, 124), (124, .iconst 1, 1, 125), (125, .isub, 1, 126), (126, .istore 14, 2, 128), (128, .iload 14, 2, 130), (130, .ifCond .lt 45, 3, 133), (133, .aload 9, 2, 135), (135, .iload 14, 2, 137), (137, .iaload, 1, 138), (138, .i2l, 1, 139), (139, .ldc2_w 130, 3, 142), (142, .land, 1, 143), (143, .lload 6, 2, 145), (145, .lmul, 1, 146), (146, .lload 11, 2, 148), (148, .ladd, 1, 149), (149, .lstore 15, 2, 151), (151, .aload 10, 2, 153), (153, .iload 13, 2, 155), (155, .iinc 13 (-1), 3, 158), (158, .lload 15, 2, 160), (160, .l2i, 1, 161), (161, .iastore, 1, 162), (162, .lload 15, 2, 164), (164, .bipush 32, 2, 166), (166, .lushr, 1, 167), (167, .lstore 11, 2, 169), (169, .iinc 14 (-1), 3, 172), (172, .goto (-44), 3, 175), (175, .aload 10, 2, 177), (177, .iload 13, 2, 179), (179, .lload 11, 2, 181), (181, .l2i, 1, 182), (182, .iastore, 1, 183), (183, .lload 4, 2, 185), (185, .lconst 0, 1, 186), (186, .lcmp, 1, 187), (187, .ifCond .eq 84, 3, 190), (190, .lconst 0, 1, 191), (191, .lstore 11, 2, 193), (193, .aload 10, 2, 195), (195, .arraylength, 1, 196), (196, .iconst 2, 1, 197), (197, .isub, 1, 198), (198, .istore 13, 2, 200), (200, .iload 8, 2, 202), (202, .iconst 1, 1, 203), (203, .isub, 1, 204), (204, .istore 14, 2, 206), (206, .iload 14, 2, 208), (208, .ifCond .lt 56, 3, 211), (211, .aload 9, 2, 213), (213, .iload 14, 2, 215), (215, .iaload, 1, 216), (216, .i2l, 1, 217), (217, .ldc2_w 130, 3, 220), (220, .land, 1, 221), (221, .lload 4, 2, 223), (223, .lmul, 1, 224), (224, .aload 10, 2, 226), (226, .iload 13, 2, 228), (228, .iaload, 1, 229), (229, .i2l, 1, 230), (230, .ldc2_w 130, 3, 233), (233, .land, 1, 234), (234, .ladd, 1, 235), (235, .lload 11, 2, 237), (237, .ladd, 1, 238), (238, .lstore 15, 2, 240), (240, .aload 10, 2, 242), (242, .iload 13, 2, 244), (244, .iinc 13 (-1), 3, 247), (247, .lload 15, 2, 249), (249, .l2i, 1, 250), (250, .iastore, 1, 251), (251, .lload 15, 2, 253), (253, .bipush 32, 2, 255), (255, .lushr, 1, 256), (256, .lstore 11, 2, 258), (258, .iinc 14 (-1), 3, 261), (261, .goto (-55), 3, 264), (264, .aload 10, 2, 266), (266, .iconst 0, 1, 267), (267, .lload 11, 2, 269), (269, .l2i, 1, 270), (270, .iastore, 1, 271), (271, .lload 11, 2, 273), (273, .lconst 0, 1, 274), (274, .lcmp, 1, 275), (275, .ifCond .ne 14, 3, 278), (278, .aload 10, 2, 280), (280, .iconst 1, 1, 281), (281, .aload 10, 2, 283), (283, .arraylength, 1, 284), (284, .invokestatic 433, 3, 287), (287, .astore 10, 2, 289), (289, .new 23, 3, 292), (292, .dup, 1, 293), (293, .aload 10, 2, 295), (295, .iload_n 3, 1, 296), (296, .invokespecial 175, 3, 299), (299, .areturn, 1, 300)] (by decide +kernel)
abbrev own_us (i k : Int32) : Int32 := (i.toUInt32 >>> (k &&& 31).toUInt32).toInt32
def own_z1 (i n : Int32) : Int32 := n - own_us i 1
def own_z2 (i n : Int32) : Int32 := if i < (4 : Int32) then own_z1 i n else own_z1 (own_us i 2) (n + (-2))
def own_z4 (i n : Int32) : Int32 := if i < (16 : Int32) then own_z2 i n else own_z2 (own_us i 4) (n + (-4))
def own_z8 (i n : Int32) : Int32 := if i < (256 : Int32) then own_z4 i n else own_z4 (own_us i 8) (n + (-8))
def own_z16 (i n : Int32) : Int32 := if i < (65536 : Int32) then own_z8 i n else own_z8 (own_us i 16) (n + (-16))
def own_nlz (i : Int32) : Int32 := if (0 : Int32) < i then own_z16 i 31 else if i = (0 : Int32) then 32 else 0
theorem own_pn39 : plainFor (⟨"java/lang/Integer", "numberOfLeadingZeros", "(I)I"⟩ : MethodName) = true := plainFor_of_name (by first | (simp [plainName, overriddenIn]; done) | decide +kernel)
theorem ef0 (b0 : Int32) (m : MethodId) : entryFrame m #[.int b0] 2 = mkF m 0 #[.val (.int b0), .unset] [] := by first | (simp [entryFrame, mkF, argsToLocals, Value.category]; done) | rfl
abbrev mM39 (l : Launch) := own_Met l (⟨"java/lang/Integer", "numberOfLeadingZeros", "(I)I"⟩ : MethodName) jdk_33_method_47_code 2 (some .int)
theorem rm_nlz (hw : ∀ d ∈ tables_1, d.before a0 Z = true) (p1 : Int32) :
 mM39 l ws (oR 0 0 0 0) #[(.int p1)] Z h0 fun v h L => v = some (.int (own_nlz p1)) ∧ Fr n0 L ∧ h = h0 := by
 refine o_body own_pn39 hw (ef0 _) ?_
 intro p e s m b _ c T0 X0 j e0
 have N0 := Fr.nil n0
 refine o_iloadN X0 j (dc39 0 rfl) rfl ?_
 by_cases hc1 : (0 : Int32) < p1
 · skip
   refine o_ifYes X0 j (dc39 1 rfl) 15 (tlt hc1).2.2.1 ?_
   refine o_bipushL X0 j (dc39 8 rfl) 31 ?_
   refine o_istoreN X0 j (dc39 9 rfl) (Ls' := #[sI p1, sI 31]) rfl ?_
   refine o_iloadN X0 j (dc39 10 rfl) rfl ?_
   refine o_ldcw X0 j (dc39 11 rfl) 211 rfl ?_
   by_cases hc22 : p1 < (65536 : Int32)
   · skip
     refine o_icmpYes X0 j (dc39 12 rfl) 33 (tlt hc22).1 ?_
     refine o_iloadN X0 j (dc39 18 rfl) rfl ?_
     refine o_sipushL X0 j (dc39 19 rfl) 256 ?_
     by_cases hc37 : p1 < (256 : Int32)
     · skip
       refine o_icmpYes X0 j (dc39 20 rfl) 48 (tlt hc37).1 ?_
       refine o_iloadN X0 j (dc39 26 rfl) rfl ?_
       refine o_bipushL X0 j (dc39 27 rfl) 16 ?_
       by_cases hc51 : p1 < (16 : Int32)
       · skip
         refine o_icmpYes X0 j (dc39 28 rfl) 61 (tlt hc51).1 ?_
         refine o_iloadN X0 j (dc39 34 rfl) rfl ?_
         refine o_iconstL X0 j (dc39 35 rfl) 4 ?_
         by_cases hc63 : p1 < (4 : Int32)
         · skip
           refine o_icmpYes X0 j (dc39 36 rfl) 73 (tlt hc63).1 ?_
           refine o_iloadN X0 j (dc39 42 rfl) rfl ?_
           refine o_iloadN X0 j (dc39 43 rfl) rfl ?_
           refine o_iconstL X0 j (dc39 44 rfl) 1 ?_
           refine o_iushr X0 j (dc39 45 rfl) ?_
           refine o_isub X0 j (dc39 46 rfl) ?_
           exact o_retI X0 j (dc39 47 rfl) rfl ⟨congrArg (fun z => some (Value.int z)) (by unfold own_nlz; rw [if_pos hc1]; unfold own_z16; rw [if_pos hc22]; unfold own_z8; rw [if_pos hc37]; unfold own_z4; rw [if_pos hc51]; unfold own_z2; rw [if_pos hc63]; unfold own_z1; exact congrArg (fun z => z - _) (by decide : (31 : Int32) = (31 : Int32))), N0, e0⟩
         · skip
           refine o_icmpNo X0 j (dc39 36 rfl) (flt hc63).1 ?_
           refine o_iinc X0 j (dc39 37 rfl) rfl (z := 29) (by decide) (Ls' := #[sI p1, sI 29]) rfl ?_
           refine o_iloadN X0 j (dc39 38 rfl) rfl ?_
           refine o_iconstL X0 j (dc39 39 rfl) 2 ?_
           refine o_iushr X0 j (dc39 40 rfl) ?_
           refine o_istoreN X0 j (dc39 41 rfl) (Ls' := #[sI ((p1.toUInt32 >>> ((2 : Int32) &&& 31).toUInt32).toInt32), sI 29]) rfl ?_
           refine o_iloadN X0 j (dc39 42 rfl) rfl ?_
           refine o_iloadN X0 j (dc39 43 rfl) rfl ?_
           refine o_iconstL X0 j (dc39 44 rfl) 1 ?_
           refine o_iushr X0 j (dc39 45 rfl) ?_
           refine o_isub X0 j (dc39 46 rfl) ?_
           exact o_retI X0 j (dc39 47 rfl) rfl ⟨congrArg (fun z => some (Value.int z)) (by unfold own_nlz; rw [if_pos hc1]; unfold own_z16; rw [if_pos hc22]; unfold own_z8; rw [if_pos hc37]; unfold own_z4; rw [if_pos hc51]; unfold own_z2; rw [if_neg hc63]; unfold own_z1; exact congrArg (fun z => z - _) (by decide : (29 : Int32) = ((31 : Int32) + (-2)))), N0, e0⟩
       · skip
         refine o_icmpNo X0 j (dc39 28 rfl) (flt hc51).1 ?_
         refine o_iinc X0 j (dc39 29 rfl) rfl (z := 27) (by decide) (Ls' := #[sI p1, sI 27]) rfl ?_
         refine o_iloadN X0 j (dc39 30 rfl) rfl ?_
         refine o_iconstL X0 j (dc39 31 rfl) 4 ?_
         refine o_iushr X0 j (dc39 32 rfl) ?_
         refine o_istoreN X0 j (dc39 33 rfl) (Ls' := #[sI ((p1.toUInt32 >>> ((4 : Int32) &&& 31).toUInt32).toInt32), sI 27]) rfl ?_
         refine o_iloadN X0 j (dc39 34 rfl) rfl ?_
         refine o_iconstL X0 j (dc39 35 rfl) 4 ?_
         by_cases hc63 : ((p1.toUInt32 >>> ((4 : Int32) &&& 31).toUInt32).toInt32) < (4 : Int32)
         · skip
           refine o_icmpYes X0 j (dc39 36 rfl) 73 (tlt hc63).1 ?_
           refine o_iloadN X0 j (dc39 42 rfl) rfl ?_
           refine o_iloadN X0 j (dc39 43 rfl) rfl ?_
           refine o_iconstL X0 j (dc39 44 rfl) 1 ?_
           refine o_iushr X0 j (dc39 45 rfl) ?_
           refine o_isub X0 j (dc39 46 rfl) ?_
           exact o_retI X0 j (dc39 47 rfl) rfl ⟨congrArg (fun z => some (Value.int z)) (by unfold own_nlz; rw [if_pos hc1]; unfold own_z16; rw [if_pos hc22]; unfold own_z8; rw [if_pos hc37]; unfold own_z4; rw [if_neg hc51]; unfold own_z2; rw [if_pos hc63]; unfold own_z1; exact congrArg (fun z => z - _) (by decide : (27 : Int32) = ((31 : Int32) + (-4)))), N0, e0⟩
         · skip
           refine o_icmpNo X0 j (dc39 36 rfl) (flt hc63).1 ?_
           refine o_iinc X0 j (dc39 37 rfl) rfl (z := 25) (by decide) (Ls' := #[sI ((p1.toUInt32 >>> ((4 : Int32) &&& 31).toUInt32).toInt32), sI 25]) rfl ?_
           refine o_iloadN X0 j (dc39 38 rfl) rfl ?_
           refine o_iconstL X0 j (dc39 39 rfl) 2 ?_
           refine o_iushr X0 j (dc39 40 rfl) ?_
           refine o_istoreN X0 j (dc39 41 rfl) (Ls' := #[sI ((((p1.toUInt32 >>> ((4 : Int32) &&& 31).toUInt32).toInt32).toUInt32 >>> ((2 : Int32) &&& 31).toUInt32).toInt32), sI 25]) rfl ?_
           refine o_iloadN X0 j (dc39 42 rfl) rfl ?_
           refine o_iloadN X0 j (dc39 43 rfl) rfl ?_
           refine o_iconstL X0 j (dc39 44 rfl) 1 ?_
           refine o_iushr X0 j (dc39 45 rfl) ?_
           refine o_isub X0 j (dc39 46 rfl) ?_
           exact o_retI X0 j (dc39 47 rfl) rfl ⟨congrArg (fun z => some (Value.int z)) (by unfold own_nlz; rw [if_pos hc1]; unfold own_z16; rw [if_pos hc22]; unfold own_z8; rw [if_pos hc37]; unfold own_z4; rw [if_neg hc51]; unfold own_z2; rw [if_neg hc63]; unfold own_z1; exact congrArg (fun z => z - _) (by decide : (25 : Int32) = (((31 : Int32) + (-4)) + (-2)))), N0, e0⟩
     · skip
       refine o_icmpNo X0 j (dc39 20 rfl) (flt hc37).1 ?_
       refine o_iinc X0 j (dc39 21 rfl) rfl (z := 23) (by decide) (Ls' := #[sI p1, sI 23]) rfl ?_
       refine o_iloadN X0 j (dc39 22 rfl) rfl ?_
       refine o_bipushL X0 j (dc39 23 rfl) 8 ?_
       refine o_iushr X0 j (dc39 24 rfl) ?_
       refine o_istoreN X0 j (dc39 25 rfl) (Ls' := #[sI ((p1.toUInt32 >>> ((8 : Int32) &&& 31).toUInt32).toInt32), sI 23]) rfl ?_
       refine o_iloadN X0 j (dc39 26 rfl) rfl ?_
       refine o_bipushL X0 j (dc39 27 rfl) 16 ?_
       by_cases hc51 : ((p1.toUInt32 >>> ((8 : Int32) &&& 31).toUInt32).toInt32) < (16 : Int32)
       · skip
         refine o_icmpYes X0 j (dc39 28 rfl) 61 (tlt hc51).1 ?_
         refine o_iloadN X0 j (dc39 34 rfl) rfl ?_
         refine o_iconstL X0 j (dc39 35 rfl) 4 ?_
         by_cases hc63 : ((p1.toUInt32 >>> ((8 : Int32) &&& 31).toUInt32).toInt32) < (4 : Int32)
         · skip
           refine o_icmpYes X0 j (dc39 36 rfl) 73 (tlt hc63).1 ?_
           refine o_iloadN X0 j (dc39 42 rfl) rfl ?_
           refine o_iloadN X0 j (dc39 43 rfl) rfl ?_
           refine o_iconstL X0 j (dc39 44 rfl) 1 ?_
           refine o_iushr X0 j (dc39 45 rfl) ?_
           refine o_isub X0 j (dc39 46 rfl) ?_
           exact o_retI X0 j (dc39 47 rfl) rfl ⟨congrArg (fun z => some (Value.int z)) (by unfold own_nlz; rw [if_pos hc1]; unfold own_z16; rw [if_pos hc22]; unfold own_z8; rw [if_neg hc37]; unfold own_z4; rw [if_pos hc51]; unfold own_z2; rw [if_pos hc63]; unfold own_z1; exact congrArg (fun z => z - _) (by decide : (23 : Int32) = ((31 : Int32) + (-8)))), N0, e0⟩
         · skip
           refine o_icmpNo X0 j (dc39 36 rfl) (flt hc63).1 ?_
           refine o_iinc X0 j (dc39 37 rfl) rfl (z := 21) (by decide) (Ls' := #[sI ((p1.toUInt32 >>> ((8 : Int32) &&& 31).toUInt32).toInt32), sI 21]) rfl ?_
           refine o_iloadN X0 j (dc39 38 rfl) rfl ?_
           refine o_iconstL X0 j (dc39 39 rfl) 2 ?_
           refine o_iushr X0 j (dc39 40 rfl) ?_
           refine o_istoreN X0 j (dc39 41 rfl) (Ls' := #[sI ((((p1.toUInt32 >>> ((8 : Int32) &&& 31).toUInt32).toInt32).toUInt32 >>> ((2 : Int32) &&& 31).toUInt32).toInt32), sI 21]) rfl ?_
           refine o_iloadN X0 j (dc39 42 rfl) rfl ?_
           refine o_iloadN X0 j (dc39 43 rfl) rfl ?_
           refine o_iconstL X0 j (dc39 44 rfl) 1 ?_
           refine o_iushr X0 j (dc39 45 rfl) ?_
           refine o_isub X0 j (dc39 46 rfl) ?_
           exact o_retI X0 j (dc39 47 rfl) rfl ⟨congrArg (fun z => some (Value.int z)) (by unfold own_nlz; rw [if_pos hc1]; unfold own_z16; rw [if_pos hc22]; unfold own_z8; rw [if_neg hc37]; unfold own_z4; rw [if_pos hc51]; unfold own_z2; rw [if_neg hc63]; unfold own_z1; exact congrArg (fun z => z - _) (by decide : (21 : Int32) = (((31 : Int32) + (-8)) + (-2)))), N0, e0⟩
       · skip
         refine o_icmpNo X0 j (dc39 28 rfl) (flt hc51).1 ?_
         refine o_iinc X0 j (dc39 29 rfl) rfl (z := 19) (by decide) (Ls' := #[sI ((p1.toUInt32 >>> ((8 : Int32) &&& 31).toUInt32).toInt32), sI 19]) rfl ?_
         refine o_iloadN X0 j (dc39 30 rfl) rfl ?_
         refine o_iconstL X0 j (dc39 31 rfl) 4 ?_
         refine o_iushr X0 j (dc39 32 rfl) ?_
         refine o_istoreN X0 j (dc39 33 rfl) (Ls' := #[sI ((((p1.toUInt32 >>> ((8 : Int32) &&& 31).toUInt32).toInt32).toUInt32 >>> ((4 : Int32) &&& 31).toUInt32).toInt32), sI 19]) rfl ?_
         refine o_iloadN X0 j (dc39 34 rfl) rfl ?_
         refine o_iconstL X0 j (dc39 35 rfl) 4 ?_
         by_cases hc63 : ((((p1.toUInt32 >>> ((8 : Int32) &&& 31).toUInt32).toInt32).toUInt32 >>> ((4 : Int32) &&& 31).toUInt32).toInt32) < (4 : Int32)
         · skip
           refine o_icmpYes X0 j (dc39 36 rfl) 73 (tlt hc63).1 ?_
           refine o_iloadN X0 j (dc39 42 rfl) rfl ?_
           refine o_iloadN X0 j (dc39 43 rfl) rfl ?_
           refine o_iconstL X0 j (dc39 44 rfl) 1 ?_
           refine o_iushr X0 j (dc39 45 rfl) ?_
           refine o_isub X0 j (dc39 46 rfl) ?_
           exact o_retI X0 j (dc39 47 rfl) rfl ⟨congrArg (fun z => some (Value.int z)) (by unfold own_nlz; rw [if_pos hc1]; unfold own_z16; rw [if_pos hc22]; unfold own_z8; rw [if_neg hc37]; unfold own_z4; rw [if_neg hc51]; unfold own_z2; rw [if_pos hc63]; unfold own_z1; exact congrArg (fun z => z - _) (by decide : (19 : Int32) = (((31 : Int32) + (-8)) + (-4)))), N0, e0⟩
         · skip
           refine o_icmpNo X0 j (dc39 36 rfl) (flt hc63).1 ?_
           refine o_iinc X0 j (dc39 37 rfl) rfl (z := 17) (by decide) (Ls' := #[sI ((((p1.toUInt32 >>> ((8 : Int32) &&& 31).toUInt32).toInt32).toUInt32 >>> ((4 : Int32) &&& 31).toUInt32).toInt32), sI 17]) rfl ?_
           refine o_iloadN X0 j (dc39 38 rfl) rfl ?_
           refine o_iconstL X0 j (dc39 39 rfl) 2 ?_
           refine o_iushr X0 j (dc39 40 rfl) ?_
           refine o_istoreN X0 j (dc39 41 rfl) (Ls' := #[sI ((((((p1.toUInt32 >>> ((8 : Int32) &&& 31).toUInt32).toInt32).toUInt32 >>> ((4 : Int32) &&& 31).toUInt32).toInt32).toUInt32 >>> ((2 : Int32) &&& 31).toUInt32).toInt32), sI 17]) rfl ?_
           refine o_iloadN X0 j (dc39 42 rfl) rfl ?_
           refine o_iloadN X0 j (dc39 43 rfl) rfl ?_
           refine o_iconstL X0 j (dc39 44 rfl) 1 ?_
           refine o_iushr X0 j (dc39 45 rfl) ?_
           refine o_isub X0 j (dc39 46 rfl) ?_
           exact o_retI X0 j (dc39 47 rfl) rfl ⟨congrArg (fun z => some (Value.int z)) (by unfold own_nlz; rw [if_pos hc1]; unfold own_z16; rw [if_pos hc22]; unfold own_z8; rw [if_neg hc37]; unfold own_z4; rw [if_neg hc51]; unfold own_z2; rw [if_neg hc63]; unfold own_z1; exact congrArg (fun z => z - _) (by decide : (17 : Int32) = ((((31 : Int32) + (-8)) + (-4)) + (-2)))), N0, e0⟩
   · skip
     refine o_icmpNo X0 j (dc39 12 rfl) (flt hc22).1 ?_
     refine o_iinc X0 j (dc39 13 rfl) rfl (z := 15) (by decide) (Ls' := #[sI p1, sI 15]) rfl ?_
     refine o_iloadN X0 j (dc39 14 rfl) rfl ?_
     refine o_bipushL X0 j (dc39 15 rfl) 16 ?_
     refine o_iushr X0 j (dc39 16 rfl) ?_
     refine o_istoreN X0 j (dc39 17 rfl) (Ls' := #[sI ((p1.toUInt32 >>> ((16 : Int32) &&& 31).toUInt32).toInt32), sI 15]) rfl ?_
     refine o_iloadN X0 j (dc39 18 rfl) rfl ?_
     refine o_sipushL X0 j (dc39 19 rfl) 256 ?_
     by_cases hc37 : ((p1.toUInt32 >>> ((16 : Int32) &&& 31).toUInt32).toInt32) < (256 : Int32)
     · skip
       refine o_icmpYes X0 j (dc39 20 rfl) 48 (tlt hc37).1 ?_
       refine o_iloadN X0 j (dc39 26 rfl) rfl ?_
       refine o_bipushL X0 j (dc39 27 rfl) 16 ?_
       by_cases hc51 : ((p1.toUInt32 >>> ((16 : Int32) &&& 31).toUInt32).toInt32) < (16 : Int32)
       · skip
         refine o_icmpYes X0 j (dc39 28 rfl) 61 (tlt hc51).1 ?_
         refine o_iloadN X0 j (dc39 34 rfl) rfl ?_
         refine o_iconstL X0 j (dc39 35 rfl) 4 ?_
         by_cases hc63 : ((p1.toUInt32 >>> ((16 : Int32) &&& 31).toUInt32).toInt32) < (4 : Int32)
         · skip
           refine o_icmpYes X0 j (dc39 36 rfl) 73 (tlt hc63).1 ?_
           refine o_iloadN X0 j (dc39 42 rfl) rfl ?_
           refine o_iloadN X0 j (dc39 43 rfl) rfl ?_
           refine o_iconstL X0 j (dc39 44 rfl) 1 ?_
           refine o_iushr X0 j (dc39 45 rfl) ?_
           refine o_isub X0 j (dc39 46 rfl) ?_
           exact o_retI X0 j (dc39 47 rfl) rfl ⟨congrArg (fun z => some (Value.int z)) (by unfold own_nlz; rw [if_pos hc1]; unfold own_z16; rw [if_neg hc22]; unfold own_z8; rw [if_pos hc37]; unfold own_z4; rw [if_pos hc51]; unfold own_z2; rw [if_pos hc63]; unfold own_z1; exact congrArg (fun z => z - _) (by decide : (15 : Int32) = ((31 : Int32) + (-16)))), N0, e0⟩
         · skip
           refine o_icmpNo X0 j (dc39 36 rfl) (flt hc63).1 ?_
           refine o_iinc X0 j (dc39 37 rfl) rfl (z := 13) (by decide) (Ls' := #[sI ((p1.toUInt32 >>> ((16 : Int32) &&& 31).toUInt32).toInt32), sI 13]) rfl ?_
           refine o_iloadN X0 j (dc39 38 rfl) rfl ?_
           refine o_iconstL X0 j (dc39 39 rfl) 2 ?_
           refine o_iushr X0 j (dc39 40 rfl) ?_
           refine o_istoreN X0 j (dc39 41 rfl) (Ls' := #[sI ((((p1.toUInt32 >>> ((16 : Int32) &&& 31).toUInt32).toInt32).toUInt32 >>> ((2 : Int32) &&& 31).toUInt32).toInt32), sI 13]) rfl ?_
           refine o_iloadN X0 j (dc39 42 rfl) rfl ?_
           refine o_iloadN X0 j (dc39 43 rfl) rfl ?_
           refine o_iconstL X0 j (dc39 44 rfl) 1 ?_
           refine o_iushr X0 j (dc39 45 rfl) ?_
           refine o_isub X0 j (dc39 46 rfl) ?_
           exact o_retI X0 j (dc39 47 rfl) rfl ⟨congrArg (fun z => some (Value.int z)) (by unfold own_nlz; rw [if_pos hc1]; unfold own_z16; rw [if_neg hc22]; unfold own_z8; rw [if_pos hc37]; unfold own_z4; rw [if_pos hc51]; unfold own_z2; rw [if_neg hc63]; unfold own_z1; exact congrArg (fun z => z - _) (by decide : (13 : Int32) = (((31 : Int32) + (-16)) + (-2)))), N0, e0⟩
       · skip
         refine o_icmpNo X0 j (dc39 28 rfl) (flt hc51).1 ?_
         refine o_iinc X0 j (dc39 29 rfl) rfl (z := 11) (by decide) (Ls' := #[sI ((p1.toUInt32 >>> ((16 : Int32) &&& 31).toUInt32).toInt32), sI 11]) rfl ?_
         refine o_iloadN X0 j (dc39 30 rfl) rfl ?_
         refine o_iconstL X0 j (dc39 31 rfl) 4 ?_
         refine o_iushr X0 j (dc39 32 rfl) ?_
         refine o_istoreN X0 j (dc39 33 rfl) (Ls' := #[sI ((((p1.toUInt32 >>> ((16 : Int32) &&& 31).toUInt32).toInt32).toUInt32 >>> ((4 : Int32) &&& 31).toUInt32).toInt32), sI 11]) rfl ?_
         refine o_iloadN X0 j (dc39 34 rfl) rfl ?_
         refine o_iconstL X0 j (dc39 35 rfl) 4 ?_
         by_cases hc63 : ((((p1.toUInt32 >>> ((16 : Int32) &&& 31).toUInt32).toInt32).toUInt32 >>> ((4 : Int32) &&& 31).toUInt32).toInt32) < (4 : Int32)
         · skip
           refine o_icmpYes X0 j (dc39 36 rfl) 73 (tlt hc63).1 ?_
           refine o_iloadN X0 j (dc39 42 rfl) rfl ?_
           refine o_iloadN X0 j (dc39 43 rfl) rfl ?_
           refine o_iconstL X0 j (dc39 44 rfl) 1 ?_
           refine o_iushr X0 j (dc39 45 rfl) ?_
           refine o_isub X0 j (dc39 46 rfl) ?_
           exact o_retI X0 j (dc39 47 rfl) rfl ⟨congrArg (fun z => some (Value.int z)) (by unfold own_nlz; rw [if_pos hc1]; unfold own_z16; rw [if_neg hc22]; unfold own_z8; rw [if_pos hc37]; unfold own_z4; rw [if_neg hc51]; unfold own_z2; rw [if_pos hc63]; unfold own_z1; exact congrArg (fun z => z - _) (by decide : (11 : Int32) = (((31 : Int32) + (-16)) + (-4)))), N0, e0⟩
         · skip
           refine o_icmpNo X0 j (dc39 36 rfl) (flt hc63).1 ?_
           refine o_iinc X0 j (dc39 37 rfl) rfl (z := 9) (by decide) (Ls' := #[sI ((((p1.toUInt32 >>> ((16 : Int32) &&& 31).toUInt32).toInt32).toUInt32 >>> ((4 : Int32) &&& 31).toUInt32).toInt32), sI 9]) rfl ?_
           refine o_iloadN X0 j (dc39 38 rfl) rfl ?_
           refine o_iconstL X0 j (dc39 39 rfl) 2 ?_
           refine o_iushr X0 j (dc39 40 rfl) ?_
           refine o_istoreN X0 j (dc39 41 rfl) (Ls' := #[sI ((((((p1.toUInt32 >>> ((16 : Int32) &&& 31).toUInt32).toInt32).toUInt32 >>> ((4 : Int32) &&& 31).toUInt32).toInt32).toUInt32 >>> ((2 : Int32) &&& 31).toUInt32).toInt32), sI 9]) rfl ?_
           refine o_iloadN X0 j (dc39 42 rfl) rfl ?_
           refine o_iloadN X0 j (dc39 43 rfl) rfl ?_
           refine o_iconstL X0 j (dc39 44 rfl) 1 ?_
           refine o_iushr X0 j (dc39 45 rfl) ?_
           refine o_isub X0 j (dc39 46 rfl) ?_
           exact o_retI X0 j (dc39 47 rfl) rfl ⟨congrArg (fun z => some (Value.int z)) (by unfold own_nlz; rw [if_pos hc1]; unfold own_z16; rw [if_neg hc22]; unfold own_z8; rw [if_pos hc37]; unfold own_z4; rw [if_neg hc51]; unfold own_z2; rw [if_neg hc63]; unfold own_z1; exact congrArg (fun z => z - _) (by decide : (9 : Int32) = ((((31 : Int32) + (-16)) + (-4)) + (-2)))), N0, e0⟩
     · skip
       refine o_icmpNo X0 j (dc39 20 rfl) (flt hc37).1 ?_
       refine o_iinc X0 j (dc39 21 rfl) rfl (z := 7) (by decide) (Ls' := #[sI ((p1.toUInt32 >>> ((16 : Int32) &&& 31).toUInt32).toInt32), sI 7]) rfl ?_
       refine o_iloadN X0 j (dc39 22 rfl) rfl ?_
       refine o_bipushL X0 j (dc39 23 rfl) 8 ?_
       refine o_iushr X0 j (dc39 24 rfl) ?_
       refine o_istoreN X0 j (dc39 25 rfl) (Ls' := #[sI ((((p1.toUInt32 >>> ((16 : Int32) &&& 31).toUInt32).toInt32).toUInt32 >>> ((8 : Int32) &&& 31).toUInt32).toInt32), sI 7]) rfl ?_
       refine o_iloadN X0 j (dc39 26 rfl) rfl ?_
       refine o_bipushL X0 j (dc39 27 rfl) 16 ?_
       by_cases hc51 : ((((p1.toUInt32 >>> ((16 : Int32) &&& 31).toUInt32).toInt32).toUInt32 >>> ((8 : Int32) &&& 31).toUInt32).toInt32) < (16 : Int32)
       · skip
         refine o_icmpYes X0 j (dc39 28 rfl) 61 (tlt hc51).1 ?_
         refine o_iloadN X0 j (dc39 34 rfl) rfl ?_
         refine o_iconstL X0 j (dc39 35 rfl) 4 ?_
         by_cases hc63 : ((((p1.toUInt32 >>> ((16 : Int32) &&& 31).toUInt32).toInt32).toUInt32 >>> ((8 : Int32) &&& 31).toUInt32).toInt32) < (4 : Int32)
         · skip
           refine o_icmpYes X0 j (dc39 36 rfl) 73 (tlt hc63).1 ?_
           refine o_iloadN X0 j (dc39 42 rfl) rfl ?_
           refine o_iloadN X0 j (dc39 43 rfl) rfl ?_
           refine o_iconstL X0 j (dc39 44 rfl) 1 ?_
           refine o_iushr X0 j (dc39 45 rfl) ?_
           refine o_isub X0 j (dc39 46 rfl) ?_
           exact o_retI X0 j (dc39 47 rfl) rfl ⟨congrArg (fun z => some (Value.int z)) (by unfold own_nlz; rw [if_pos hc1]; unfold own_z16; rw [if_neg hc22]; unfold own_z8; rw [if_neg hc37]; unfold own_z4; rw [if_pos hc51]; unfold own_z2; rw [if_pos hc63]; unfold own_z1; exact congrArg (fun z => z - _) (by decide : (7 : Int32) = (((31 : Int32) + (-16)) + (-8)))), N0, e0⟩
         · skip
           refine o_icmpNo X0 j (dc39 36 rfl) (flt hc63).1 ?_
           refine o_iinc X0 j (dc39 37 rfl) rfl (z := 5) (by decide) (Ls' := #[sI ((((p1.toUInt32 >>> ((16 : Int32) &&& 31).toUInt32).toInt32).toUInt32 >>> ((8 : Int32) &&& 31).toUInt32).toInt32), sI 5]) rfl ?_
           refine o_iloadN X0 j (dc39 38 rfl) rfl ?_
           refine o_iconstL X0 j (dc39 39 rfl) 2 ?_
           refine o_iushr X0 j (dc39 40 rfl) ?_
           refine o_istoreN X0 j (dc39 41 rfl) (Ls' := #[sI ((((((p1.toUInt32 >>> ((16 : Int32) &&& 31).toUInt32).toInt32).toUInt32 >>> ((8 : Int32) &&& 31).toUInt32).toInt32).toUInt32 >>> ((2 : Int32) &&& 31).toUInt32).toInt32), sI 5]) rfl ?_
           refine o_iloadN X0 j (dc39 42 rfl) rfl ?_
           refine o_iloadN X0 j (dc39 43 rfl) rfl ?_
           refine o_iconstL X0 j (dc39 44 rfl) 1 ?_
           refine o_iushr X0 j (dc39 45 rfl) ?_
           refine o_isub X0 j (dc39 46 rfl) ?_
           exact o_retI X0 j (dc39 47 rfl) rfl ⟨congrArg (fun z => some (Value.int z)) (by unfold own_nlz; rw [if_pos hc1]; unfold own_z16; rw [if_neg hc22]; unfold own_z8; rw [if_neg hc37]; unfold own_z4; rw [if_pos hc51]; unfold own_z2; rw [if_neg hc63]; unfold own_z1; exact congrArg (fun z => z - _) (by decide : (5 : Int32) = ((((31 : Int32) + (-16)) + (-8)) + (-2)))), N0, e0⟩
       · skip
         refine o_icmpNo X0 j (dc39 28 rfl) (flt hc51).1 ?_
         refine o_iinc X0 j (dc39 29 rfl) rfl (z := 3) (by decide) (Ls' := #[sI ((((p1.toUInt32 >>> ((16 : Int32) &&& 31).toUInt32).toInt32).toUInt32 >>> ((8 : Int32) &&& 31).toUInt32).toInt32), sI 3]) rfl ?_
         refine o_iloadN X0 j (dc39 30 rfl) rfl ?_
         refine o_iconstL X0 j (dc39 31 rfl) 4 ?_
         refine o_iushr X0 j (dc39 32 rfl) ?_
         refine o_istoreN X0 j (dc39 33 rfl) (Ls' := #[sI ((((((p1.toUInt32 >>> ((16 : Int32) &&& 31).toUInt32).toInt32).toUInt32 >>> ((8 : Int32) &&& 31).toUInt32).toInt32).toUInt32 >>> ((4 : Int32) &&& 31).toUInt32).toInt32), sI 3]) rfl ?_
         refine o_iloadN X0 j (dc39 34 rfl) rfl ?_
         refine o_iconstL X0 j (dc39 35 rfl) 4 ?_
         by_cases hc63 : ((((((p1.toUInt32 >>> ((16 : Int32) &&& 31).toUInt32).toInt32).toUInt32 >>> ((8 : Int32) &&& 31).toUInt32).toInt32).toUInt32 >>> ((4 : Int32) &&& 31).toUInt32).toInt32) < (4 : Int32)
         · skip
           refine o_icmpYes X0 j (dc39 36 rfl) 73 (tlt hc63).1 ?_
           refine o_iloadN X0 j (dc39 42 rfl) rfl ?_
           refine o_iloadN X0 j (dc39 43 rfl) rfl ?_
           refine o_iconstL X0 j (dc39 44 rfl) 1 ?_
           refine o_iushr X0 j (dc39 45 rfl) ?_
           refine o_isub X0 j (dc39 46 rfl) ?_
           exact o_retI X0 j (dc39 47 rfl) rfl ⟨congrArg (fun z => some (Value.int z)) (by unfold own_nlz; rw [if_pos hc1]; unfold own_z16; rw [if_neg hc22]; unfold own_z8; rw [if_neg hc37]; unfold own_z4; rw [if_neg hc51]; unfold own_z2; rw [if_pos hc63]; unfold own_z1; exact congrArg (fun z => z - _) (by decide : (3 : Int32) = ((((31 : Int32) + (-16)) + (-8)) + (-4)))), N0, e0⟩
         · skip
           refine o_icmpNo X0 j (dc39 36 rfl) (flt hc63).1 ?_
           refine o_iinc X0 j (dc39 37 rfl) rfl (z := 1) (by decide) (Ls' := #[sI ((((((p1.toUInt32 >>> ((16 : Int32) &&& 31).toUInt32).toInt32).toUInt32 >>> ((8 : Int32) &&& 31).toUInt32).toInt32).toUInt32 >>> ((4 : Int32) &&& 31).toUInt32).toInt32), sI 1]) rfl ?_
           refine o_iloadN X0 j (dc39 38 rfl) rfl ?_
           refine o_iconstL X0 j (dc39 39 rfl) 2 ?_
           refine o_iushr X0 j (dc39 40 rfl) ?_
           refine o_istoreN X0 j (dc39 41 rfl) (Ls' := #[sI ((((((((p1.toUInt32 >>> ((16 : Int32) &&& 31).toUInt32).toInt32).toUInt32 >>> ((8 : Int32) &&& 31).toUInt32).toInt32).toUInt32 >>> ((4 : Int32) &&& 31).toUInt32).toInt32).toUInt32 >>> ((2 : Int32) &&& 31).toUInt32).toInt32), sI 1]) rfl ?_
           refine o_iloadN X0 j (dc39 42 rfl) rfl ?_
           refine o_iloadN X0 j (dc39 43 rfl) rfl ?_
           refine o_iconstL X0 j (dc39 44 rfl) 1 ?_
           refine o_iushr X0 j (dc39 45 rfl) ?_
           refine o_isub X0 j (dc39 46 rfl) ?_
           exact o_retI X0 j (dc39 47 rfl) rfl ⟨congrArg (fun z => some (Value.int z)) (by unfold own_nlz; rw [if_pos hc1]; unfold own_z16; rw [if_neg hc22]; unfold own_z8; rw [if_neg hc37]; unfold own_z4; rw [if_neg hc51]; unfold own_z2; rw [if_neg hc63]; unfold own_z1; exact congrArg (fun z => z - _) (by decide : (1 : Int32) = (((((31 : Int32) + (-16)) + (-8)) + (-4)) + (-2)))), N0, e0⟩
 · skip
   refine o_ifNo X0 j (dc39 1 rfl) (flt hc1).2.2.1 ?_
   refine o_iloadN X0 j (dc39 2 rfl) rfl ?_
   by_cases hc5 : p1 = (0 : Int32)
   · skip
     refine o_ifNo X0 j (dc39 3 rfl) (teq hc5).2 ?_
     refine o_bipushL X0 j (dc39 4 rfl) 32 ?_
     refine o_goto X0 j (dc39 5 rfl) 14 ?_
     exact o_retI X0 j (dc39 7 rfl) rfl ⟨congrArg (fun z => some (Value.int z)) (by unfold own_nlz; rw [if_neg hc1, if_pos hc5]), N0, e0⟩
   · skip
     refine o_ifYes X0 j (dc39 3 rfl) 13 (feq hc5).2 ?_
     refine o_iconstL X0 j (dc39 6 rfl) 0 ?_
     exact o_retI X0 j (dc39 7 rfl) rfl ⟨congrArg (fun z => some (Value.int z)) (by unfold own_nlz; rw [if_neg hc1, if_neg hc5]), N0, e0⟩
abbrev Ff0 (Z : State) (h : Heap) (a : Addr) (v : Value) : Prop := Fld Z h a "java/math/BigInteger" "signum" "I" v
abbrev Ff1 (Z : State) (h : Heap) (a : Addr) (v : Value) : Prop := Fld Z h a "java/math/BigInteger" "mag" "[I" v
abbrev Ff2 (Z : State) (h : Heap) (a : Addr) (v : Value) : Prop := Fld Z h a "java/math/BigDecimal" "intCompact" "J" v
abbrev Ff3 (Z : State) (h : Heap) (a : Addr) (v : Value) : Prop := Fld Z h a "java/math/BigDecimal" "scale" "I" v
abbrev Ff4 (Z : State) (h : Heap) (a : Addr) (v : Value) : Prop := Fld Z h a "java/time/Duration" "seconds" "J" v
abbrev Ff5 (Z : State) (h : Heap) (a : Addr) (v : Value) : Prop := Fld Z h a "java/time/Duration" "nanos" "I" v
abbrev Ff6 (Z : State) (h : Heap) (a : Addr) (v : Value) : Prop := Fld Z h a "java/math/BigDecimal" "intVal" "Ljava/math/BigInteger;" v
abbrev Ff7 (Z : State) (h : Heap) (a : Addr) (v : Value) : Prop := Fld Z h a "java/math/BigDecimal" "precision" "I" v
abbrev Ff8 (Z : State) (h : Heap) (a : Addr) (v : Value) : Prop := Fld Z h a "java/math/BigInteger" "bitLengthPlusOne" "I" v
abbrev Ff9 (Z : State) (h : Heap) (a : Addr) (v : Value) : Prop := Fld Z h a "java/math/MutableBigInteger" "intLen" "I" v
abbrev Ff10 (Z : State) (h : Heap) (a : Addr) (v : Value) : Prop := Fld Z h a "java/math/MutableBigInteger" "offset" "I" v
abbrev Ff11 (Z : State) (h : Heap) (a : Addr) (v : Value) : Prop := Fld Z h a "java/math/MutableBigInteger" "value" "[I" v
abbrev Ee0 (Z : State) (h : Heap) (a : Addr) : Prop := Exa Z h a "java/math/BigInteger"
abbrev Ee1 (Z : State) (h : Heap) (a : Addr) : Prop := Exa Z h a "java/math/BigDecimal"
abbrev Ee2 (Z : State) (h : Heap) (a : Addr) : Prop := Exa Z h a "java/time/Duration"
abbrev Ee3 (Z : State) (h : Heap) (a : Addr) : Prop := Exa Z h a "java/math/MutableBigInteger"
def own_K (Z : State) (a0 : Array Value) (g : Nat → Addr) : Prop := (∀ d ∈ tables_1, d.before a0 Z = true) ∧ Sta Z Z.heap "java/math/BigDecimal" "ZERO_THROUGH_TEN" "[Ljava/math/BigDecimal;" (.ref (g 49)) ∧ Sta Z Z.heap "java/math/BigDecimal" "ZERO_SCALED_BY" "[Ljava/math/BigDecimal;" (.ref (g 50)) ∧ Sta Z Z.heap "java/math/BigDecimal" "LONG_TEN_POWERS_TABLE" "[J" (.ref (g 52)) ∧ Sta Z Z.heap "java/math/BigDecimal" "THRESHOLDS_TABLE" "[J" (.ref (g 53)) ∧ Sta Z Z.heap "java/time/Duration" "BI_NANOS_PER_SECOND" "Ljava/math/BigInteger;" (.ref (g 54)) ∧ Sta Z Z.heap "java/math/BigInteger" "ZERO" "Ljava/math/BigInteger;" (.ref (g 0)) ∧ Sta Z Z.heap "com/example/services_on_tap/servicesontap/RetryBackoff" "FIRST_DELAY" "Ljava/time/Duration;" (.ref (g 51)) ∧ Ee0 Z Z.heap (g 0) ∧ Ff0 Z Z.heap (g 0) (.int 0) ∧ Ff1 Z Z.heap (g 0) (.ref (g 1)) ∧ own_Ar Z Z.heap (g 1) .int [] ∧ Ee1 Z Z.heap (g 8) ∧ Ff2 Z Z.heap (g 8) (.long 2) ∧ Ff3 Z Z.heap (g 8) (.int 0) ∧ Ee1 Z Z.heap (g 14) ∧ Ff2 Z Z.heap (g 14) (.long 4) ∧ Ff3 Z Z.heap (g 14) (.int 0) ∧ Ee1 Z Z.heap (g 26) ∧ Ff2 Z Z.heap (g 26) (.long 8) ∧ Ff3 Z Z.heap (g 26) (.int 0) ∧ Ee1 Z Z.heap (g 42) ∧ Ff2 Z Z.heap (g 42) (.long 0) ∧ Ff3 Z Z.heap (g 42) (.int 9) ∧ own_Ar Z Z.heap (g 49) (.object "java/math/BigDecimal") [(.ref (g 2)), (.ref (g 5)), (.ref (g 8)), (.ref (g 11)), (.ref (g 14)), (.ref (g 17)), (.ref (g 20)), (.ref (g 23)), (.ref (g 26)), (.ref (g 29)), (.ref (g 32))] ∧ own_Ar Z Z.heap (g 50) (.object "java/math/BigDecimal") [(.ref (g 33)), (.ref (g 34)), (.ref (g 35)), (.ref (g 36)), (.ref (g 37)), (.ref (g 38)), (.ref (g 39)), (.ref (g 40)), (.ref (g 41)), (.ref (g 42)), (.ref (g 43)), (.ref (g 44)), (.ref (g 45)), (.ref (g 46)), (.ref (g 47)), (.ref (g 48))] ∧ Ee2 Z Z.heap (g 51) ∧ Ff4 Z Z.heap (g 51) (.long 4) ∧ Ff5 Z Z.heap (g 51) (.int 0) ∧ own_Ar Z Z.heap (g 52) .long [(.long 1), (.long 10), (.long 100), (.long 1000), (.long 10000), (.long 100000), (.long 1000000), (.long 10000000), (.long 100000000), (.long 1000000000), (.long 10000000000), (.long 100000000000), (.long 1000000000000), (.long 10000000000000), (.long 100000000000000), (.long 1000000000000000), (.long 10000000000000000), (.long 100000000000000000), (.long 1000000000000000000)] ∧ own_Ar Z Z.heap (g 53) .long [(.long 9223372036854775807), (.long 922337203685477580), (.long 92233720368547758), (.long 9223372036854775), (.long 922337203685477), (.long 92233720368547), (.long 9223372036854), (.long 922337203685), (.long 92233720368), (.long 9223372036), (.long 922337203), (.long 92233720), (.long 9223372), (.long 922337), (.long 92233), (.long 9223), (.long 922), (.long 92), (.long 9)] ∧ Ee0 Z Z.heap (g 54) ∧ Ff0 Z Z.heap (g 54) (.int 1) ∧ Ff1 Z Z.heap (g 54) (.ref (g 55)) ∧ own_Ar Z Z.heap (g 55) .int [(.int 1000000000)] ∧ True
theorem ot (k : own_K Z a0 g) (i : Nat) {d : Jvm.Cond} (h : tables_1[i]? = some d) : d.before a0 Z = true := own_t k.1 i h
theorem k0 (h : own_K Z a0 g) : Sta Z Z.heap "java/math/BigDecimal" "ZERO_THROUGH_TEN" "[Ljava/math/BigDecimal;" (.ref (g 49)) := h.2.1
theorem k1 (h : own_K Z a0 g) : Sta Z Z.heap "java/math/BigDecimal" "ZERO_SCALED_BY" "[Ljava/math/BigDecimal;" (.ref (g 50)) := h.2.2.1
theorem k2 (h : own_K Z a0 g) : Sta Z Z.heap "java/math/BigDecimal" "LONG_TEN_POWERS_TABLE" "[J" (.ref (g 52)) := h.2.2.2.1
theorem k3 (h : own_K Z a0 g) : Sta Z Z.heap "java/math/BigDecimal" "THRESHOLDS_TABLE" "[J" (.ref (g 53)) := h.2.2.2.2.1
theorem k4 (h : own_K Z a0 g) : Sta Z Z.heap "java/time/Duration" "BI_NANOS_PER_SECOND" "Ljava/math/BigInteger;" (.ref (g 54)) := h.2.2.2.2.2.1
theorem k5 (h : own_K Z a0 g) : Sta Z Z.heap "java/math/BigInteger" "ZERO" "Ljava/math/BigInteger;" (.ref (g 0)) := h.2.2.2.2.2.2.1
theorem k6 (h : own_K Z a0 g) : Sta Z Z.heap "com/example/services_on_tap/servicesontap/RetryBackoff" "FIRST_DELAY" "Ljava/time/Duration;" (.ref (g 51)) := h.2.2.2.2.2.2.2.1
theorem k7 (h : own_K Z a0 g) : Ee0 Z Z.heap (g 0) := h.2.2.2.2.2.2.2.2.1
theorem k8 (h : own_K Z a0 g) : Ff0 Z Z.heap (g 0) (.int 0) := h.2.2.2.2.2.2.2.2.2.1
theorem k9 (h : own_K Z a0 g) : Ff1 Z Z.heap (g 0) (.ref (g 1)) := h.2.2.2.2.2.2.2.2.2.2.1
theorem k10 (h : own_K Z a0 g) : own_Ar Z Z.heap (g 1) .int [] := h.2.2.2.2.2.2.2.2.2.2.2.1
theorem k11 (h : own_K Z a0 g) : Ee1 Z Z.heap (g 8) := h.2.2.2.2.2.2.2.2.2.2.2.2.1
theorem k12 (h : own_K Z a0 g) : Ff2 Z Z.heap (g 8) (.long 2) := h.2.2.2.2.2.2.2.2.2.2.2.2.2.1
theorem k13 (h : own_K Z a0 g) : Ff3 Z Z.heap (g 8) (.int 0) := h.2.2.2.2.2.2.2.2.2.2.2.2.2.2.1
theorem k14 (h : own_K Z a0 g) : Ee1 Z Z.heap (g 14) := h.2.2.2.2.2.2.2.2.2.2.2.2.2.2.2.1
theorem k15 (h : own_K Z a0 g) : Ff2 Z Z.heap (g 14) (.long 4) := h.2.2.2.2.2.2.2.2.2.2.2.2.2.2.2.2.1
theorem k16 (h : own_K Z a0 g) : Ff3 Z Z.heap (g 14) (.int 0) := h.2.2.2.2.2.2.2.2.2.2.2.2.2.2.2.2.2.1
theorem k17 (h : own_K Z a0 g) : Ee1 Z Z.heap (g 26) := h.2.2.2.2.2.2.2.2.2.2.2.2.2.2.2.2.2.2.1
theorem k18 (h : own_K Z a0 g) : Ff2 Z Z.heap (g 26) (.long 8) := h.2.2.2.2.2.2.2.2.2.2.2.2.2.2.2.2.2.2.2.1
theorem k19 (h : own_K Z a0 g) : Ff3 Z Z.heap (g 26) (.int 0) := h.2.2.2.2.2.2.2.2.2.2.2.2.2.2.2.2.2.2.2.2.1
theorem k20 (h : own_K Z a0 g) : Ee1 Z Z.heap (g 42) := h.2.2.2.2.2.2.2.2.2.2.2.2.2.2.2.2.2.2.2.2.2.1
theorem k21 (h : own_K Z a0 g) : Ff2 Z Z.heap (g 42) (.long 0) := h.2.2.2.2.2.2.2.2.2.2.2.2.2.2.2.2.2.2.2.2.2.2.1
theorem k22 (h : own_K Z a0 g) : Ff3 Z Z.heap (g 42) (.int 9) := h.2.2.2.2.2.2.2.2.2.2.2.2.2.2.2.2.2.2.2.2.2.2.2.1
theorem k23 (h : own_K Z a0 g) : own_Ar Z Z.heap (g 49) (.object "java/math/BigDecimal") [(.ref (g 2)), (.ref (g 5)), (.ref (g 8)), (.ref (g 11)), (.ref (g 14)), (.ref (g 17)), (.ref (g 20)), (.ref (g 23)), (.ref (g 26)), (.ref (g 29)), (.ref (g 32))] := h.2.2.2.2.2.2.2.2.2.2.2.2.2.2.2.2.2.2.2.2.2.2.2.2.1
theorem k24 (h : own_K Z a0 g) : own_Ar Z Z.heap (g 50) (.object "java/math/BigDecimal") [(.ref (g 33)), (.ref (g 34)), (.ref (g 35)), (.ref (g 36)), (.ref (g 37)), (.ref (g 38)), (.ref (g 39)), (.ref (g 40)), (.ref (g 41)), (.ref (g 42)), (.ref (g 43)), (.ref (g 44)), (.ref (g 45)), (.ref (g 46)), (.ref (g 47)), (.ref (g 48))] := h.2.2.2.2.2.2.2.2.2.2.2.2.2.2.2.2.2.2.2.2.2.2.2.2.2.1
theorem k25 (h : own_K Z a0 g) : Ee2 Z Z.heap (g 51) := h.2.2.2.2.2.2.2.2.2.2.2.2.2.2.2.2.2.2.2.2.2.2.2.2.2.2.1
theorem k26 (h : own_K Z a0 g) : Ff4 Z Z.heap (g 51) (.long 4) := h.2.2.2.2.2.2.2.2.2.2.2.2.2.2.2.2.2.2.2.2.2.2.2.2.2.2.2.1
theorem k27 (h : own_K Z a0 g) : Ff5 Z Z.heap (g 51) (.int 0) := h.2.2.2.2.2.2.2.2.2.2.2.2.2.2.2.2.2.2.2.2.2.2.2.2.2.2.2.2.1
theorem k28 (h : own_K Z a0 g) : own_Ar Z Z.heap (g 52) .long [(.long 1), (.long 10), (.long 100), (.long 1000), (.long 10000), (.long 100000), (.long 1000000), (.long 10000000), (.long 100000000), (.long 1000000000), (.long 10000000000), (.long 100000000000), (.long 1000000000000), (.long 10000000000000), (.long 100000000000000), (.long 1000000000000000), (.long 10000000000000000), (.long 100000000000000000), (.long 1000000000000000000)] := h.2.2.2.2.2.2.2.2.2.2.2.2.2.2.2.2.2.2.2.2.2.2.2.2.2.2.2.2.2.1
theorem k29 (h : own_K Z a0 g) : own_Ar Z Z.heap (g 53) .long [(.long 9223372036854775807), (.long 922337203685477580), (.long 92233720368547758), (.long 9223372036854775), (.long 922337203685477), (.long 92233720368547), (.long 9223372036854), (.long 922337203685), (.long 92233720368), (.long 9223372036), (.long 922337203), (.long 92233720), (.long 9223372), (.long 922337), (.long 92233), (.long 9223), (.long 922), (.long 92), (.long 9)] := h.2.2.2.2.2.2.2.2.2.2.2.2.2.2.2.2.2.2.2.2.2.2.2.2.2.2.2.2.2.2.1
theorem k30 (h : own_K Z a0 g) : Ee0 Z Z.heap (g 54) := h.2.2.2.2.2.2.2.2.2.2.2.2.2.2.2.2.2.2.2.2.2.2.2.2.2.2.2.2.2.2.2.1
theorem k31 (h : own_K Z a0 g) : Ff0 Z Z.heap (g 54) (.int 1) := h.2.2.2.2.2.2.2.2.2.2.2.2.2.2.2.2.2.2.2.2.2.2.2.2.2.2.2.2.2.2.2.2.1
theorem k32 (h : own_K Z a0 g) : Ff1 Z Z.heap (g 54) (.ref (g 55)) := h.2.2.2.2.2.2.2.2.2.2.2.2.2.2.2.2.2.2.2.2.2.2.2.2.2.2.2.2.2.2.2.2.2.1
theorem k33 (h : own_K Z a0 g) : own_Ar Z Z.heap (g 55) .int [(.int 1000000000)] := h.2.2.2.2.2.2.2.2.2.2.2.2.2.2.2.2.2.2.2.2.2.2.2.2.2.2.2.2.2.2.2.2.2.2.1
def H0 (x0 : Int64) : Bool := decide (¬ x0 = (0 : Int64)) && (decide (x0 = (1 : Int64)) && true)
theorem own_pn2 : plainFor (⟨"java/time/Duration", "multipliedBy", "(J)Ljava/time/Duration;"⟩ : MethodName) = true := plainFor_of_name (by first | (simp [plainName, overriddenIn]; done) | decide +kernel)
theorem ef1 (b0 : Addr) (b1 : Int64) (m : MethodId) : entryFrame m #[.ref b0, .long b1] 3 = mkF m 0 #[.val (.ref b0), .val (.long b1), .second] [] := by first | (simp [entryFrame, mkF, argsToLocals, Value.category]; done) | rfl
abbrev mM2 (l : Launch) := own_Met l (⟨"java/time/Duration", "multipliedBy", "(J)Ljava/time/Duration;"⟩ : MethodName) jdk_2316_method_44_code 3 (some (.object "java/time/Duration"))
theorem ct0 (a1 : Addr) (x0 : Int64) (O_0 : Old Z n0 h0) (k : own_K Z a0 g) (E_0 : Ee2 Z h0 a1) (hH : H0 x0 = true) :
 mM2 l ws (oR 0 0 0 0) #[(.ref a1), (.long x0)] Z h0 fun v h L => v = some (.ref a1) ∧ Fr n0 L ∧ h = h0 := by
 refine o_body own_pn2 k.1 (ef1 _ _) ?_
 intro p e s m b _ c T0 X0 j e0
 have N0 := Fr.nil n0
 have Z0 := own_Z0 O_0
 obtain ⟨hh0, q0⟩ := o_ad hH
 obtain ⟨hh1, q1⟩ := o_ad q0
 refine o_lloadN X0 j (dc2 0 rfl) rfl ?_
 refine o_lconstL X0 j (dc2 1 rfl) 0 ?_
 refine o_lcmp X0 j (dc2 2 rfl) ?_
 refine o_ifYes X0 j (dc2 3 rfl) 10 (feq (fun q => hh0 ((lw_eq x0 (0 : Int64)).mp q))).2 ?_
 refine o_lloadN X0 j (dc2 4 rfl) rfl ?_
 refine o_lconstL X0 j (dc2 5 rfl) 1 ?_
 refine o_lcmp X0 j (dc2 6 rfl) ?_
 refine o_ifNo X0 j (dc2 7 rfl) (teq ((lw_eq x0 (1 : Int64)).mpr hh1)).2 ?_
 refine o_aloadN X0 j (dc2 8 rfl) rfl rfl ?_
 exact o_retA X0 j (dc2 9 rfl) rfl ⟨rfl, N0, e0⟩
def H1 (x0 : Int32) : Bool := decide (¬ x0 < (1 : Int32)) && (decide (¬ (61 : Int32) < x0) && ((H0 ((1 : Int64) <<< ((x0 - (1 : Int32)) &&& 0x3f).toInt64)) && true))
theorem own_pn1 : plainFor (⟨"com/example/services_on_tap/servicesontap/RetryBackoff", "delayBefore", "(I)Ljava/time/Duration;"⟩ : MethodName) = true := plainFor_of_name (by first | (simp [plainName, overriddenIn]; done) | decide +kernel)
theorem own_pd0 : parseMethodDescriptor "(J)Ljava/time/Duration;" = some ⟨[.long], some (.object "java/time/Duration")⟩ := by decide +kernel
def pL0 {L : List Value} := @lenOf _ _ _ own_pd0 L
theorem ef2 (b0 : Int32) (m : MethodId) : entryFrame m #[.int b0] 1 = mkF m 0 #[.val (.int b0)] [] := by first | (simp [entryFrame, mkF, argsToLocals, Value.category]; done) | rfl
abbrev mM1 (l : Launch) := own_Met l (⟨"com/example/services_on_tap/servicesontap/RetryBackoff", "delayBefore", "(I)Ljava/time/Duration;"⟩ : MethodName) prog_22_method_2_code 1 (some (.object "java/time/Duration"))
theorem ct1 (x0 : Int32) (O_0 : Old Z n0 h0) (k : own_K Z a0 g) (hH : H1 x0 = true) :
 mM1 l ws (oR 1 0 0 14) #[(.int x0)] Z h0 fun v h L => v = some (.ref (g 51)) ∧ Fr n0 L ∧ h = h0 := by
 refine o_body own_pn1 k.1 (ef2 _) ?_
 intro p e s m b _ c T0 X0 j e0
 have N0 := Fr.nil n0
 have Z0 := own_Z0 O_0
 obtain ⟨hh0, q0⟩ := o_ad hH
 obtain ⟨hh1, q1⟩ := o_ad q0
 obtain ⟨hh2, q2⟩ := own_and q1
 refine o_iloadN X0 j (dc1 0 rfl) rfl ?_
 refine o_iconstL X0 j (dc1 1 rfl) 1 ?_
 refine o_icmpNo X0 j (dc1 2 rfl) (flt hh0).1 ?_
 refine o_iloadN X0 j (dc1 3 rfl) rfl ?_
 refine o_bipushL X0 j (dc1 4 rfl) 61 ?_
 refine o_icmpYes X0 j (dc1 5 rfl) 25 (flt hh1).2.2.2 ?_
 refine o_getS X0 j (dc1 6 rfl) 5 rfl e0 ((k6 k).ext O_0.2) fun T1 X1 e1 => ?_
 refine o_lconstL X1 j (dc1 7 rfl) 1 ?_
 refine o_iloadN X1 j (dc1 8 rfl) rfl ?_
 refine o_iconstL X1 j (dc1 9 rfl) 1 ?_
 refine o_isub X1 j (dc1 10 rfl) ?_
 refine o_lshl X1 j (dc1 11 rfl) ?_
 refine o_callV X1 j (ct0 (g 51) ((1 : Int64) <<< ((x0 - (1 : Int32)) &&& 0x3f).toInt64) O_0 k (((k25 k).ext O_0.2)) hh2) rfl rfl (pL0 rfl) (dc1 12 rfl) 7 8 10 9 12 11 ⟨rfl, rfl, rfl, rfl, rfl, rfl⟩ ((k25 k).ext O_0.2) 0 e1 ?_
 rintro _ T2 L2 X2 ⟨rfl, M2, e2⟩
 have N2 := Fr.app N0 M2
 show oG p e b T2 m 36 #[sI x0] [(.ref (g 51))] _
 exact o_retA X2 j (dc1 13 rfl) rfl ⟨rfl, N2, e2⟩
def H2  : Bool := decide (¬ (4 : Int64) < (0 : Int64)) && (decide ((4 : Int64) < (11 : Int64)) && true)
theorem own_pn6 : plainFor (⟨"java/math/BigDecimal", "valueOf", "(J)Ljava/math/BigDecimal;"⟩ : MethodName) = true := plainFor_of_name (by first | (simp [plainName, overriddenIn]; done) | decide +kernel)
theorem ef3 (b0 : Int64) (m : MethodId) : entryFrame m #[.long b0] 2 = mkF m 0 #[.val (.long b0), .second] [] := by first | (simp [entryFrame, mkF, argsToLocals, Value.category]; done) | rfl
abbrev mM6 (l : Launch) := own_Met l (⟨"java/math/BigDecimal", "valueOf", "(J)Ljava/math/BigDecimal;"⟩ : MethodName) jdk_17_method_21_code 2 (some (.object "java/math/BigDecimal"))
theorem ct2 (O_0 : Old Z n0 h0) (k : own_K Z a0 g) (hH : H2  = true) :
 mM6 l ws (oR 0 0 0 0) #[(.long 4)] Z h0 fun v h L => v = some (.ref (g 14)) ∧ Fr n0 L ∧ h = h0 := by
 refine o_body own_pn6 k.1 (ef3 _) ?_
 intro p e s m b _ c T0 X0 j e0
 have N0 := Fr.nil n0
 have Z0 := own_Z0 O_0
 obtain ⟨hh0, q0⟩ := o_ad hH
 obtain ⟨hh1, q1⟩ := o_ad q0
 refine o_lloadN X0 j (dc6 0 rfl) rfl ?_
 refine o_lconstL X0 j (dc6 1 rfl) 0 ?_
 refine o_lcmp X0 j (dc6 2 rfl) ?_
 refine o_ifNo X0 j (dc6 3 rfl) (flt (fun q => hh0 ((lw_lt (4 : Int64) (0 : Int64)).mp q))).1 ?_
 refine o_lloadN X0 j (dc6 4 rfl) rfl ?_
 refine o_getS X0 j (dc6 5 rfl) 36 rfl e0 ((k0 k).ext O_0.2) fun T3 X3 e3 => ?_
 refine o_len X3 j (dc6 6 rfl) e3 (((k23 k).ext O_0.2)) 11 ?_
 refine o_i2lL X3 j (dc6 7 rfl) 11 ?_
 refine o_lcmp X3 j (dc6 8 rfl) ?_
 refine o_ifNo X3 j (dc6 9 rfl) (tlt ((lw_lt (4 : Int64) (11 : Int64)).mpr hh1)).2.1 ?_
 refine o_getS X3 j (dc6 10 rfl) 36 rfl e3 ((k0 k).ext O_0.2) fun T4 X4 e4 => ?_
 refine o_lloadN X4 j (dc6 11 rfl) rfl ?_
 refine o_l2iL X4 j (dc6 12 rfl) 4 ?_
 refine o_aaload X4 j (dc6 13 rfl) e4 (((k23 k).ext O_0.2)) (.ref (g 14)) ?_
 exact o_retA X4 j (dc6 14 rfl) rfl ⟨rfl, N0, e4⟩
theorem own_pn8 : plainFor (⟨"java/math/BigDecimal", "zeroValueOf", "(I)Ljava/math/BigDecimal;"⟩ : MethodName) = true := plainFor_of_name (by first | (simp [plainName, overriddenIn]; done) | decide +kernel)
abbrev mM8 (l : Launch) := own_Met l (⟨"java/math/BigDecimal", "zeroValueOf", "(I)Ljava/math/BigDecimal;"⟩ : MethodName) jdk_17_method_24_code 1 (some (.object "java/math/BigDecimal"))
theorem ct3 (O_0 : Old Z n0 h0) (k : own_K Z a0 g) :
 mM8 l ws (oR 0 0 0 0) #[(.int 9)] Z h0 fun v h L => v = some (.ref (g 42)) ∧ Fr n0 L ∧ h = h0 := by
 refine o_body own_pn8 k.1 (ef2 _) ?_
 intro p e s m b _ c T0 X0 j e0
 have N0 := Fr.nil n0
 have Z0 := own_Z0 O_0
 refine o_iloadN X0 j (dc8 0 rfl) rfl ?_
 refine o_ifNoD X0 j (dc8 1 rfl) ?_
 refine o_iloadN X0 j (dc8 2 rfl) rfl ?_
 refine o_getS X0 j (dc8 3 rfl) 43 rfl e0 ((k1 k).ext O_0.2) fun T5 X5 e5 => ?_
 refine o_len X5 j (dc8 4 rfl) e5 (((k24 k).ext O_0.2)) 16 ?_
 refine o_icmpNoD X5 j (dc8 5 rfl) ?_
 refine o_getS X5 j (dc8 6 rfl) 43 rfl e5 ((k1 k).ext O_0.2) fun T6 X6 e6 => ?_
 refine o_iloadN X6 j (dc8 7 rfl) rfl ?_
 refine o_aaload X6 j (dc8 8 rfl) e6 (((k24 k).ext O_0.2)) (.ref (g 42)) ?_
 exact o_retA X6 j (dc8 9 rfl) rfl ⟨rfl, N0, e6⟩
theorem own_pn7 : plainFor (⟨"java/math/BigDecimal", "valueOf", "(JI)Ljava/math/BigDecimal;"⟩ : MethodName) = true := plainFor_of_name (by first | (simp [plainName, overriddenIn]; done) | decide +kernel)
theorem own_pd1 : parseMethodDescriptor "(I)Ljava/math/BigDecimal;" = some ⟨[.int], some (.object "java/math/BigDecimal")⟩ := by decide +kernel
def pL1 {L : List Value} := @lenOf _ _ _ own_pd1 L
theorem ef4 (b0 : Int64) (b1 : Int32) (m : MethodId) : entryFrame m #[.long b0, .int b1] 3 = mkF m 0 #[.val (.long b0), .second, .val (.int b1)] [] := by first | (simp [entryFrame, mkF, argsToLocals, Value.category]; done) | rfl
abbrev mM7 (l : Launch) := own_Met l (⟨"java/math/BigDecimal", "valueOf", "(JI)Ljava/math/BigDecimal;"⟩ : MethodName) jdk_17_method_20_code 3 (some (.object "java/math/BigDecimal"))
theorem ct4 (O_0 : Old Z n0 h0) (k : own_K Z a0 g) :
 mM7 l ws (oR 1 0 0 12) #[(.long 0), (.int 9)] Z h0 fun v h L => v = some (.ref (g 42)) ∧ Fr n0 L ∧ h = h0 := by
 refine o_body own_pn7 k.1 (ef4 _ _) ?_
 intro p e s m b _ c T0 X0 j e0
 have N0 := Fr.nil n0
 have Z0 := own_Z0 O_0
 refine o_iloadN X0 j (dc7 0 rfl) rfl ?_
 refine o_ifYesD X0 j (dc7 1 rfl) 9 ?_
 refine o_lloadN X0 j (dc7 2 rfl) rfl ?_
 refine o_lconstL X0 j (dc7 3 rfl) 0 ?_
 refine o_lcmp X0 j (dc7 4 rfl) ?_
 refine o_ifNo X0 j (dc7 5 rfl) (teq ((lw_eq (0 : Int64) (0 : Int64)).mpr rfl)).2 ?_
 refine o_iloadN X0 j (dc7 6 rfl) rfl ?_
 refine o_callS X0 j (ct3 O_0 k) rfl rfl (pL1 rfl) (dc7 7 rfl) 40 41 34 42 ⟨rfl, rfl, rfl, rfl⟩ 0 e0 ?_
 rintro _ T7 L7 X7 ⟨rfl, M7, e7⟩
 have N7 := Fr.app N0 M7
 show oG p e b T7 m 19 #[sJ 0, s2, sI 9] [(.ref (g 42))] _
 exact o_retA X7 j (dc7 8 rfl) rfl ⟨rfl, N7, e7⟩
theorem own_pn11 : plainFor (⟨"java/math/BigDecimal", "checkScale", "(JJ)I"⟩ : MethodName) = true := plainFor_of_name (by first | (simp [plainName, overriddenIn]; done) | decide +kernel)
theorem ef5 (b0 b1 : Int64) (m : MethodId) : entryFrame m #[.long b0, .long b1] 5 = mkF m 0 #[.val (.long b0), .second, .val (.long b1), .second, .unset] [] := by first | (simp [entryFrame, mkF, argsToLocals, Value.category]; done) | rfl
abbrev mM11 (l : Launch) := own_Met l (⟨"java/math/BigDecimal", "checkScale", "(JJ)I"⟩ : MethodName) jdk_17_method_113_code 5 (some .int)
theorem ct5 (O_0 : Old Z n0 h0) (k : own_K Z a0 g) :
 mM11 l ws (oR 0 0 0 0) #[(.long 4), (.long 9)] Z h0 fun v h L => v = some (.int 9) ∧ Fr n0 L ∧ h = h0 := by
 refine o_body own_pn11 k.1 (ef5 _ _) ?_
 intro p e s m b _ c T0 X0 j e0
 have N0 := Fr.nil n0
 have Z0 := own_Z0 O_0
 refine o_lloadN X0 j (dc11 0 rfl) rfl ?_
 refine o_l2iL X0 j (dc11 1 rfl) 9 ?_
 refine o_istore X0 j (dc11 2 rfl) (Ls' := #[sJ 4, s2, sJ 9, s2, sI 9]) rfl ?_
 refine o_iload X0 j (dc11 3 rfl) rfl ?_
 refine o_i2lL X0 j (dc11 4 rfl) 9 ?_
 refine o_lloadN X0 j (dc11 5 rfl) rfl ?_
 refine o_lcmp X0 j (dc11 6 rfl) ?_
 refine o_ifYes X0 j (dc11 7 rfl) 59 (teq ((lw_eq (9 : Int64) (9 : Int64)).mpr rfl)).1 ?_
 refine o_iload X0 j (dc11 8 rfl) rfl ?_
 exact o_retI X0 j (dc11 9 rfl) rfl ⟨rfl, N0, e0⟩
def H6 (x0 : Int64) : Bool := decide (¬ x0 < (0 : Int64)) && true
theorem own_pn13 : plainFor (⟨"java/lang/Math", "abs", "(J)J"⟩ : MethodName) = true := Jvm.Free.JP.mathPlain rfl (by decide +kernel)
abbrev mM13 (l : Launch) := own_Met l (⟨"java/lang/Math", "abs", "(J)J"⟩ : MethodName) jdk_29_method_61_code 2 (some .long)
theorem ct6 (x0 : Int64) (O_0 : Old Z n0 h0) (k : own_K Z a0 g) (hH : H6 x0 = true) :
 mM13 l ws (oR 0 0 0 0) #[(.long x0)] Z h0 fun v h L => v = some (.long x0) ∧ Fr n0 L ∧ h = h0 := by
 refine o_body own_pn13 k.1 (ef3 _) ?_
 intro p e s m b _ c T0 X0 j e0
 have N0 := Fr.nil n0
 have Z0 := own_Z0 O_0
 obtain ⟨hh0, q0⟩ := o_ad hH
 refine o_lloadN X0 j (dc13 0 rfl) rfl ?_
 refine o_lconstL X0 j (dc13 1 rfl) 0 ?_
 refine o_lcmp X0 j (dc13 2 rfl) ?_
 refine o_ifYes X0 j (dc13 3 rfl) 11 (flt (fun q => hh0 ((lw_lt x0 (0 : Int64)).mp q))).2.1 ?_
 refine o_lloadN X0 j (dc13 4 rfl) rfl ?_
 exact o_retJ X0 j (dc13 5 rfl) rfl ⟨rfl, N0, e0⟩
def H7  : Bool := decide (¬ (4 : Int64) = (0 : Int64)) && (decide (¬ (4 : Int64) = (1 : Int64)) && (decide (¬ (9223372036 : Int64) < (4 : Int64)) && true))
theorem own_pn12 : plainFor (⟨"java/math/BigDecimal", "longMultiplyPowerTen", "(JI)J"⟩ : MethodName) = true := plainFor_of_name (by first | (simp [plainName, overriddenIn]; done) | decide +kernel)
theorem own_pd2 : parseMethodDescriptor "(J)J" = some ⟨[.long], some .long⟩ := by decide +kernel
def pL2 {L : List Value} := @lenOf _ _ _ own_pd2 L
theorem ef6 (b0 : Int64) (b1 : Int32) (m : MethodId) : entryFrame m #[.long b0, .int b1] 7 = mkF m 0 #[.val (.long b0), .second, .val (.int b1), .unset, .unset, .unset, .unset] [] := by first | (simp [entryFrame, mkF, argsToLocals, Value.category]; done) | rfl
abbrev mM12 (l : Launch) := own_Met l (⟨"java/math/BigDecimal", "longMultiplyPowerTen", "(JI)J"⟩ : MethodName) jdk_17_method_97_code 7 (some .long)
theorem ct7 (O_0 : Old Z n0 h0) (k : own_K Z a0 g) (hH : H7  = true) :
 mM12 l ws (oR 1 0 0 13) #[(.long 4), (.int 9)] Z h0 fun v h L => v = some (.long 4000000000) ∧ Fr n0 L ∧ h = h0 := by
 refine o_body own_pn12 k.1 (ef6 _ _) ?_
 intro p e s m b _ c T0 X0 j e0
 have N0 := Fr.nil n0
 have Z0 := own_Z0 O_0
 obtain ⟨hh0, q0⟩ := o_ad hH
 obtain ⟨hh1, q1⟩ := o_ad q0
 obtain ⟨hh2, q2⟩ := o_ad q1
 refine o_lloadN X0 j (dc12 0 rfl) rfl ?_
 refine o_lconstL X0 j (dc12 1 rfl) 0 ?_
 refine o_lcmp X0 j (dc12 2 rfl) ?_
 refine o_ifNo X0 j (dc12 3 rfl) (feq (fun q => hh0 ((lw_eq (4 : Int64) (0 : Int64)).mp q))).1 ?_
 refine o_iloadN X0 j (dc12 4 rfl) rfl ?_
 refine o_ifYesD X0 j (dc12 5 rfl) 12 ?_
 refine o_getS X0 j (dc12 6 rfl) 63 rfl e0 ((k2 k).ext O_0.2) fun T8 X8 e8 => ?_
 refine o_astoreN X8 j (dc12 7 rfl) rfl (Ls' := #[sJ 4, s2, sI 9, sR (g 52), sU, sU, sU]) rfl ?_
 refine o_getS X8 j (dc12 8 rfl) 64 rfl e8 ((k3 k).ext O_0.2) fun T9 X9 e9 => ?_
 refine o_astore X9 j (dc12 9 rfl) rfl (Ls' := #[sJ 4, s2, sI 9, sR (g 52), sR (g 53), sU, sU]) rfl ?_
 refine o_iloadN X9 j (dc12 10 rfl) rfl ?_
 refine o_aloadN X9 j (dc12 11 rfl) rfl rfl ?_
 refine o_len X9 j (dc12 12 rfl) e9 (((k28 k).ext O_0.2)) 19 ?_
 refine o_icmpNoD X9 j (dc12 13 rfl) ?_
 refine o_iloadN X9 j (dc12 14 rfl) rfl ?_
 refine o_aload X9 j (dc12 15 rfl) rfl rfl ?_
 refine o_len X9 j (dc12 16 rfl) e9 (((k29 k).ext O_0.2)) 19 ?_
 refine o_icmpNoD X9 j (dc12 17 rfl) ?_
 refine o_aloadN X9 j (dc12 18 rfl) rfl rfl ?_
 refine o_iloadN X9 j (dc12 19 rfl) rfl ?_
 refine o_laload X9 j (dc12 20 rfl) e9 (((k28 k).ext O_0.2)) (.long 1000000000) ?_
 refine o_lstore X9 j (dc12 21 rfl) (Ls' := #[sJ 4, s2, sI 9, sR (g 52), sR (g 53), sJ 1000000000, s2]) rfl ?_
 refine o_lloadN X9 j (dc12 22 rfl) rfl ?_
 refine o_lconstL X9 j (dc12 23 rfl) 1 ?_
 refine o_lcmp X9 j (dc12 24 rfl) ?_
 refine o_ifYes X9 j (dc12 25 rfl) 48 (feq (fun q => hh1 ((lw_eq (4 : Int64) (1 : Int64)).mp q))).2 ?_
 refine o_lloadN X9 j (dc12 26 rfl) rfl ?_
 refine o_callS X9 j (ct6 (4 : Int64) O_0 k (by decide)) rfl rfl (pL2 rfl) (dc12 27 rfl) 65 66 67 68 ⟨rfl, rfl, rfl, rfl⟩ 0 e9 ?_
 rintro _ T10 L10 X10 ⟨rfl, M10, e10⟩
 have N10 := Fr.app N0 M10
 show oG p e b T10 m 52 #[sJ 4, s2, sI 9, sR (g 52), sR (g 53), sJ 1000000000, s2] [(.long 4)] _
 refine o_aload X10 j (dc12 28 rfl) rfl rfl ?_
 refine o_iloadN X10 j (dc12 29 rfl) rfl ?_
 refine o_laload X10 j (dc12 30 rfl) e10 (((k29 k).ext O_0.2)) (.long 9223372036) ?_
 refine o_lcmp X10 j (dc12 31 rfl) ?_
 refine o_ifNo X10 j (dc12 32 rfl) (flt (fun q => hh2 ((lw_gt (4 : Int64) (9223372036 : Int64)).mp q))).2.2.1 ?_
 refine o_lloadN X10 j (dc12 33 rfl) rfl ?_
 refine o_lload X10 j (dc12 34 rfl) rfl ?_
 refine o_lmulL X10 j (dc12 35 rfl) 4000000000 ?_
 exact o_retJ X10 j (dc12 36 rfl) rfl ⟨rfl, N10, e10⟩
def H8  : Bool := decide (¬ (0 : Int64) < (0 : Int64)) && true
theorem own_pn15 : plainFor (⟨"java/math/BigDecimal", "add", "(JJ)J"⟩ : MethodName) = true := plainFor_of_name (by first | (simp [plainName, overriddenIn]; done) | decide +kernel)
theorem ef7 (b0 b1 : Int64) (m : MethodId) : entryFrame m #[.long b0, .long b1] 6 = mkF m 0 #[.val (.long b0), .second, .val (.long b1), .second, .unset, .unset] [] := by first | (simp [entryFrame, mkF, argsToLocals, Value.category]; done) | rfl
abbrev mM15 (l : Launch) := own_Met l (⟨"java/math/BigDecimal", "add", "(JJ)J"⟩ : MethodName) jdk_17_method_132_code 6 (some .long)
theorem ct8 (O_0 : Old Z n0 h0) (k : own_K Z a0 g) (hH : H8  = true) :
 mM15 l ws (oR 0 0 0 0) #[(.long 4000000000), (.long 0)] Z h0 fun v h L => v = some (.long 4000000000) ∧ Fr n0 L ∧ h = h0 := by
 refine o_body own_pn15 k.1 (ef7 _ _) ?_
 intro p e s m b _ c T0 X0 j e0
 have N0 := Fr.nil n0
 have Z0 := own_Z0 O_0
 obtain ⟨hh0, q0⟩ := o_ad hH
 refine o_lloadN X0 j (dc15 0 rfl) rfl ?_
 refine o_lloadN X0 j (dc15 1 rfl) rfl ?_
 refine o_laddL X0 j (dc15 2 rfl) 4000000000 ?_
 refine o_lstore X0 j (dc15 3 rfl) (Ls' := #[sJ 4000000000, s2, sJ 0, s2, sJ 4000000000, s2]) rfl ?_
 refine o_lload X0 j (dc15 4 rfl) rfl ?_
 refine o_lloadN X0 j (dc15 5 rfl) rfl ?_
 refine o_lxorL X0 j (dc15 6 rfl) 0 ?_
 refine o_lload X0 j (dc15 7 rfl) rfl ?_
 refine o_lloadN X0 j (dc15 8 rfl) rfl ?_
 refine o_lxorL X0 j (dc15 9 rfl) 4000000000 ?_
 refine o_landL X0 j (dc15 10 rfl) 0 ?_
 refine o_lconstL X0 j (dc15 11 rfl) 0 ?_
 refine o_lcmp X0 j (dc15 12 rfl) ?_
 refine o_ifNo X0 j (dc15 13 rfl) (flt (fun q => hh0 ((lw_lt (0 : Int64) (0 : Int64)).mp q))).1 ?_
 refine o_lload X0 j (dc15 14 rfl) rfl ?_
 exact o_retJ X0 j (dc15 15 rfl) rfl ⟨rfl, N0, e0⟩
theorem own_pn17 : plainFor (⟨"java/lang/Number", "<init>", "()V"⟩ : MethodName) = true := plainFor_of_name (by first | (simp [plainName, overriddenIn]; done) | decide +kernel)
theorem ef8 (b0 : Addr) (m : MethodId) : entryFrame m #[.ref b0] 1 = mkF m 0 #[.val (.ref b0)] [] := by first | (simp [entryFrame, mkF, argsToLocals, Value.category]; done) | rfl
abbrev mM17 (l : Launch) := own_Met l (⟨"java/lang/Number", "<init>", "()V"⟩ : MethodName) jdk_18_method_1_code 1 none
theorem ct10 (a1 : Addr) (O_0 : Old Z n0 h0) (k : own_K Z a0 g) (E_0 : Ee1 Z h0 a1) :
 mM17 l ws (oR 1 0 0 12) #[(.ref a1)] Z h0 fun v h L => v = none ∧ Fr n0 L ∧ h = h0 := by
 refine o_body own_pn17 k.1 (ef8 _) ?_
 intro p e s m b _ c T0 X0 j e0
 have N0 := Fr.nil n0
 have Z0 := own_Z0 O_0
 refine o_aloadN X0 j (dc17 0 rfl) rfl rfl ?_
 refine o_initO X0 j (dc17 1 rfl) 88 89 90 ⟨rfl, rfl, rfl⟩ e0 0 fun T11 X11 e11 => ?_
 show oG p e b T11 m 4 #[sR a1] [] _
 exact o_retV X11 j (dc17 2 rfl) rfl ⟨rfl, N0, e11⟩
theorem own_pn16 : plainFor (⟨"java/math/BigDecimal", "<init>", "(Ljava/math/BigInteger;JII)V"⟩ : MethodName) = true := plainFor_of_name (by first | (simp [plainName, overriddenIn]; done) | decide +kernel)
theorem own_pd3 : parseMethodDescriptor "()V" = some ⟨[], none⟩ := by decide +kernel
def pL3 {L : List Value} := @lenOf _ _ _ own_pd3 L
theorem ef9 (b0 : Addr) (b2 : Int64) (b3 b4 : Int32) (m : MethodId) : entryFrame m #[.ref b0, .null, .long b2, .int b3, .int b4] 6 = mkF m 0 #[.val (.ref b0), .val .null, .val (.long b2), .second, .val (.int b3), .val (.int b4)] [] := by first | (simp [entryFrame, mkF, argsToLocals, Value.category]; done) | rfl
abbrev mM16 (l : Launch) := own_Met l (⟨"java/math/BigDecimal", "<init>", "(Ljava/math/BigInteger;JII)V"⟩ : MethodName) jdk_17_method_1_code 6 none
def sn0 (k : own_K Z a0 g) := slot_ne (Or.inl (ot k 92 rfl)) (Or.inr (ot k 53 rfl)) (by decide) (t := .int) (t' := .int) (by decide) (by decide)
def sn1 (k : own_K Z a0 g) := slot_ne (Or.inr (ot k 50 rfl)) (Or.inr (ot k 53 rfl)) (by decide) (t := .long) (t' := .int) (by decide) (by decide)
def sn2 (k : own_K Z a0 g) := slot_ne (Or.inr (ot k 50 rfl)) (Or.inl (ot k 92 rfl)) (by decide) (t := .long) (t' := .int) (by decide) (by decide)
def sn3 (k : own_K Z a0 g) := slot_ne (Or.inr (ot k 94 rfl)) (Or.inr (ot k 53 rfl)) (by decide) (t := (.object "java/math/BigInteger")) (t' := .int) (by decide) (by decide)
def sn4 (k : own_K Z a0 g) := slot_ne (Or.inr (ot k 94 rfl)) (Or.inl (ot k 92 rfl)) (by decide) (t := (.object "java/math/BigInteger")) (t' := .int) (by decide) (by decide)
def sn5 (k : own_K Z a0 g) := slot_ne (Or.inr (ot k 94 rfl)) (Or.inr (ot k 50 rfl)) (by decide) (t := (.object "java/math/BigInteger")) (t' := .long) (by decide) (by decide)
def sn6 (k : own_K Z a0 g) := slot_ne (Or.inr (ot k 50 rfl)) (Or.inr (ot k 94 rfl)) (by decide) (t := .long) (t' := (.object "java/math/BigInteger")) (by decide) (by decide)
def sn7 (k : own_K Z a0 g) := slot_ne (Or.inl (ot k 92 rfl)) (Or.inr (ot k 50 rfl)) (by decide) (t := .int) (t' := .long) (by decide) (by decide)
def sn8 (k : own_K Z a0 g) := slot_ne (Or.inl (ot k 92 rfl)) (Or.inr (ot k 94 rfl)) (by decide) (t := .int) (t' := (.object "java/math/BigInteger")) (by decide) (by decide)
def sn9 (k : own_K Z a0 g) := slot_ne (Or.inr (ot k 53 rfl)) (Or.inl (ot k 92 rfl)) (by decide) (t := .int) (t' := .int) (by decide) (by decide)
def sn10 (k : own_K Z a0 g) := slot_ne (Or.inr (ot k 53 rfl)) (Or.inr (ot k 50 rfl)) (by decide) (t := .int) (t' := .long) (by decide) (by decide)
def sn11 (k : own_K Z a0 g) := slot_ne (Or.inr (ot k 53 rfl)) (Or.inr (ot k 94 rfl)) (by decide) (t := .int) (t' := (.object "java/math/BigInteger")) (by decide) (by decide)
theorem ct11 (a1 : Addr) (x0 : Int64) (x1 : Int32) (O_0 : Old Z n0 h0) (k : own_K Z a0 g) (E_0 : Ee1 Z h0 a1) (F0intCompact : Ff2 Z h0 a1 (.long 0)) (F0intVal : Ff6 Z h0 a1 .null) (F0precision : Ff7 Z h0 a1 (.int 0)) (F0scale : Ff3 Z h0 a1 (.int 0)) (G_0 : n0 ≤ a1) :
 mM16 l ws (oR 2 0 0 24) #[(.ref a1), .null, (.long x0), (.int x1), (.int 0)] Z h0 fun v h L => v = none ∧ Fr n0 L ∧ Keep h0 h [a1] ∧ Ff2 Z h a1 (.long x0) ∧ Ff6 Z h a1 .null ∧ Ff7 Z h a1 (.int 0) ∧ Ff3 Z h a1 (.int x1) := by
 refine o_body own_pn16 k.1 (ef9 _ _ _ _) ?_
 intro p e s m b _ c T0 X0 j e0
 have N0 := Fr.nil n0
 have Z0 := own_Z0 O_0
 refine o_aloadN X0 j (dc16 0 rfl) rfl rfl ?_
 refine o_callSp X0 j (ct10 a1 O_0 k E_0) rfl rfl (pL3 rfl) (dc16 1 rfl) 82 83 87 86 ⟨rfl, rfl, rfl, rfl⟩ 0 e0 ?_
 rintro _ T12 L12 X12 ⟨rfl, M12, e12⟩
 have N12 := Fr.app N0 M12
 show oG p e b T12 m 4 #[sR a1, .val .null, sJ x0, s2, sI x1, sI 0] [] _
 refine o_aloadN X12 j (dc16 2 rfl) rfl rfl ?_
 refine o_iload X12 j (dc16 3 rfl) rfl ?_
 refine o_putf X12 j (dc16 4 rfl) 52 53 77 ⟨rfl, rfl, rfl⟩ .int e12 F0scale E_0 fun T13 h13 X13 e13 W13 => ?_
 have F13 := (F0scale).same W13
 have N13 := Fr.snoc X13 N12 G_0
 refine o_aloadN X13 j (dc16 5 rfl) rfl rfl ?_
 refine o_iload X13 j (dc16 6 rfl) rfl ?_
 have y15 := (F0precision.other W13 (Or.inr (sn0 k)))
 refine o_put X13 j (dc16 7 rfl) 91 92 77 ⟨rfl, rfl, rfl⟩ .int e13 y15 (E_0.wr W13) fun T14 h14 X14 e14 W14 => ?_
 have F14 := y15.same W14
 have N14 := Fr.snoc X14 N13 G_0
 refine o_aloadN X14 j (dc16 8 rfl) rfl rfl ?_
 refine o_lloadN X14 j (dc16 9 rfl) rfl ?_
 have y17 := ((F0intCompact.other W13 (Or.inr (sn1 k))).other W14 (Or.inr (sn2 k)))
 refine o_putf X14 j (dc16 10 rfl) 49 50 77 ⟨rfl, rfl, rfl⟩ .long e14 y17 ((E_0.wr W13).wr W14) fun T16 h16 X16 e16 W16 => ?_
 have F16 := y17.same W16
 have N16 := Fr.snoc X16 N14 G_0
 refine o_aloadN X16 j (dc16 11 rfl) rfl rfl ?_
 refine o_aloadN X16 j (dc16 12 rfl) rfl rfl ?_
 have y19 := (((F0intVal.other W13 (Or.inr (sn3 k))).other W14 (Or.inr (sn4 k))).other W16 (Or.inr (sn5 k)))
 refine o_putf X16 j (dc16 13 rfl) 93 94 77 ⟨rfl, rfl, rfl⟩ (.object "java/math/BigInteger") e16 y19 (((E_0.wr W13).wr W14).wr W16) fun T18 h18 X18 e18 W18 => ?_
 have F18 := y19.same W18
 have N18 := Fr.snoc X18 N16 G_0
 have y20 := (F16.other W18 (Or.inr (sn6 k)))
 have y21 := ((F14.other W16 (Or.inr (sn7 k))).other W18 (Or.inr (sn8 k)))
 have y22 := (((F13.other W14 (Or.inr (sn9 k))).other W16 (Or.inr (sn10 k))).other W18 (Or.inr (sn11 k)))
 exact o_retV X18 j (dc16 14 rfl) e18 ⟨rfl, N18, (((((Keep.refl h0 [a1]).wr W13 (mI 0 rfl)).wr W14 (mI 0 rfl)).wr W16 (mI 0 rfl)).wr W18 (mI 0 rfl)), y20, F18, y21, y22⟩
def H12 (x0 : Int64) : Bool := decide (¬ x0 = (0 : Int64)) && (decide (¬ x0 = (-9223372036854775808 : Int64)) && true)
theorem own_pd4 : parseMethodDescriptor "(Ljava/math/BigInteger;JII)V" = some ⟨[(.object "java/math/BigInteger"), .long, .int, .int], none⟩ := by decide +kernel
def pL4 {L : List Value} := @lenOf _ _ _ own_pd4 L
theorem ct12 (x0 : Int64) (O_0 : Old Z n0 h0) (k : own_K Z a0 g) (hH : H12 x0 = true) :
 mM7 l ws (oR 3 1 5 42) #[(.long x0), (.int 9)] Z h0 fun v h L => ∃ (b23 : Addr), v = some (.ref b23) ∧ Fr n0 L ∧ Keep h0 h [] ∧ h0.size ≤ b23 ∧ Ee1 Z h b23 ∧ Ff2 Z h b23 (.long x0) ∧ Ff6 Z h b23 .null ∧ Ff7 Z h b23 (.int 0) ∧ Ff3 Z h b23 (.int 9) := by
 refine o_body own_pn7 k.1 (ef4 _ _) ?_
 intro p e s m b _ c T0 X0 j e0
 have N0 := Fr.nil n0
 have Z0 := own_Z0 O_0
 obtain ⟨hh0, q0⟩ := o_ad hH
 obtain ⟨hh1, q1⟩ := o_ad q0
 refine o_iloadN X0 j (dc7 0 rfl) rfl ?_
 refine o_ifYesD X0 j (dc7 1 rfl) 9 ?_
 refine o_lloadN X0 j (dc7 2 rfl) rfl ?_
 refine o_lconstL X0 j (dc7 3 rfl) 0 ?_
 refine o_lcmp X0 j (dc7 4 rfl) ?_
 refine o_ifYes X0 j (dc7 5 rfl) 20 (feq (fun q => hh0 ((lw_eq x0 (0 : Int64)).mp q))).2 ?_
 refine o_new X0 j (dc7 9 rfl) 76 77 34 ⟨rfl, rfl, rfl⟩ e0 fun T23 h23 b23 X23 e23 g23 E23 A23 D23 => ?_
 have F23_intCompact : Ff2 Z h23 b23 (.long 0) := D23 (Or.inr (ot k 50 rfl)) (ty := .long) (by decide)
 have F23_scale : Ff3 Z h23 b23 (.int 0) := D23 (Or.inr (ot k 53 rfl)) (ty := .int) (by decide)
 have F23_precision : Ff7 Z h23 b23 (.int 0) := D23 (Or.inl (ot k 92 rfl)) (ty := .int) (by decide)
 have F23_intVal : Ff6 Z h23 b23 .null := D23 (Or.inr (ot k 94 rfl)) (ty := (.object "java/math/BigInteger")) (by decide)
 have z23 := ntr (Nat.le_refl _) (nqs g23)
 have l23 := (ntr Z0 z23)
 refine o_dup X23 j (dc7 10 rfl) rfl ?_
 refine o_lloadN X23 j (dc7 11 rfl) rfl ?_
 refine o_ldc2 X23 j (dc7 12 rfl) 51 rfl ?_
 refine o_lcmp X23 j (dc7 13 rfl) ?_
 refine o_ifYes X23 j (dc7 14 rfl) 38 (feq (fun q => hh1 ((lw_eq x0 (-9223372036854775808 : Int64)).mp q))).2 ?_
 refine o_aconst_null X23 j (dc7 15 rfl) ?_
 refine o_lloadN X23 j (dc7 16 rfl) rfl ?_
 refine o_iloadN X23 j (dc7 17 rfl) rfl ?_
 refine o_iconstL X23 j (dc7 18 rfl) 0 ?_
 refine o_callSp X23 j (ct11 b23 x0 (9 : Int32) ((O_0.ext E23)) k A23 (F23_intCompact) (F23_intVal) (F23_precision) (F23_scale) l23) rfl rfl (pL4 rfl) (dc7 19 rfl) 78 79 81 34 ⟨rfl, rfl, rfl, rfl⟩ 1 e23 ?_
 rintro _ T24 L24 X24 ⟨rfl, M24, K24, P024, P124, P224, P324⟩
 have N24 := Fr.app N0 M24
 show oG p e b T24 m 45 #[sJ x0, s2, sI 9] [(.ref b23)] _
 exact o_retA X24 j (dc7 20 rfl) rfl ⟨b23, rfl, N24, (((Keep.refl h0 []).ext E23).trans K24 (allS (Or.inr z23) all0)), z23, (A23.keep K24), P024, P124, P224, P324⟩
def H13  : Bool := decide (¬ (4000000000 : Int64) = (-9223372036854775808 : Int64)) && true
theorem own_pn14 : plainFor (⟨"java/math/BigDecimal", "add", "(JJI)Ljava/math/BigDecimal;"⟩ : MethodName) = true := plainFor_of_name (by first | (simp [plainName, overriddenIn]; done) | decide +kernel)
theorem own_pd5 : parseMethodDescriptor "(JJ)J" = some ⟨[.long, .long], some .long⟩ := by decide +kernel
def pL5 {L : List Value} := @lenOf _ _ _ own_pd5 L
theorem own_pd6 : parseMethodDescriptor "(JI)Ljava/math/BigDecimal;" = some ⟨[.long, .int], some (.object "java/math/BigDecimal")⟩ := by decide +kernel
def pL6 {L : List Value} := @lenOf _ _ _ own_pd6 L
theorem ef10 (b0 b1 : Int64) (b2 : Int32) (m : MethodId) : entryFrame m #[.long b0, .long b1, .int b2] 7 = mkF m 0 #[.val (.long b0), .second, .val (.long b1), .second, .val (.int b2), .unset, .unset] [] := by first | (simp [entryFrame, mkF, argsToLocals, Value.category]; done) | rfl
abbrev mM14 (l : Launch) := own_Met l (⟨"java/math/BigDecimal", "add", "(JJI)Ljava/math/BigDecimal;"⟩ : MethodName) jdk_17_method_133_code 7 (some (.object "java/math/BigDecimal"))
theorem ct13 (O_0 : Old Z n0 h0) (k : own_K Z a0 g) (hH : H13  = true) :
 mM14 l ws (oR 4 1 5 56) #[(.long 4000000000), (.long 0), (.int 9)] Z h0 fun v h L => ∃ (u026 : Addr), v = some (.ref u026) ∧ Fr n0 L ∧ Keep h0 h [] ∧ h0.size ≤ u026 ∧ Ee1 Z h u026 ∧ Ff2 Z h u026 (.long 4000000000) ∧ Ff6 Z h u026 .null ∧ Ff7 Z h u026 (.int 0) ∧ Ff3 Z h u026 (.int 9) := by
 refine o_body own_pn14 k.1 (ef10 _ _ _) ?_
 intro p e s m b _ c T0 X0 j e0
 have N0 := Fr.nil n0
 have Z0 := own_Z0 O_0
 obtain ⟨hh0, q0⟩ := o_ad hH
 refine o_lloadN X0 j (dc14 0 rfl) rfl ?_
 refine o_lloadN X0 j (dc14 1 rfl) rfl ?_
 refine o_callS X0 j (ct8 O_0 k (by decide)) rfl rfl (pL5 rfl) (dc14 2 rfl) 72 73 34 74 ⟨rfl, rfl, rfl, rfl⟩ 0 e0 ?_
 rintro _ T25 L25 X25 ⟨rfl, M25, e25⟩
 have N25 := Fr.app N0 M25
 show oG p e b T25 m 5 #[sJ 4000000000, s2, sJ 0, s2, sI 9, sU, sU] [(.long 4000000000)] _
 refine o_lstore X25 j (dc14 3 rfl) (Ls' := #[sJ 4000000000, s2, sJ 0, s2, sI 9, sJ 4000000000, s2]) rfl ?_
 refine o_lload X25 j (dc14 4 rfl) rfl ?_
 refine o_ldc2 X25 j (dc14 5 rfl) 51 rfl ?_
 refine o_lcmp X25 j (dc14 6 rfl) ?_
 refine o_ifNo X25 j (dc14 7 rfl) (feq (fun q => hh0 ((lw_eq (4000000000 : Int64) (-9223372036854775808 : Int64)).mp q))).1 ?_
 refine o_lload X25 j (dc14 8 rfl) rfl ?_
 refine o_iload X25 j (dc14 9 rfl) rfl ?_
 refine o_callS X25 j (ct12 (4000000000 : Int64) O_0 k (by decide)) rfl rfl (pL6 rfl) (dc14 10 rfl) 75 38 34 39 ⟨rfl, rfl, rfl, rfl⟩ 0 e25 ?_
 rintro _ T26 L26 X26 ⟨u026, rfl, M26, K26, P026, P126, P226, P326, P426, P526⟩
 have N26 := Fr.app N25 M26
 have l26_0 := (ntr Z0 P026)
 show oG p e b T26 m 23 #[sJ 4000000000, s2, sJ 0, s2, sI 9, sJ 4000000000, s2] [(.ref u026)] _
 exact o_retA X26 j (dc14 11 rfl) rfl ⟨u026, rfl, N26, ((Keep.refl h0 []).trans K26 all0), P026, P126, P226, P326, P426, P526⟩
def H14  : Bool := decide (¬ (-9 : Int64) = (0 : Int64)) && (decide ((-9 : Int64) < (0 : Int64)) && (decide (¬ (4000000000 : Int64) = (-9223372036854775808 : Int64)) && true))
theorem own_pn10 : plainFor (⟨"java/math/BigDecimal", "add", "(JIJI)Ljava/math/BigDecimal;"⟩ : MethodName) = true := plainFor_of_name (by first | (simp [plainName, overriddenIn]; done) | decide +kernel)
theorem own_pd7 : parseMethodDescriptor "(JJ)I" = some ⟨[.long, .long], some .int⟩ := by decide +kernel
def pL7 {L : List Value} := @lenOf _ _ _ own_pd7 L
theorem own_pd8 : parseMethodDescriptor "(JI)J" = some ⟨[.long, .int], some .long⟩ := by decide +kernel
def pL8 {L : List Value} := @lenOf _ _ _ own_pd8 L
theorem own_pd9 : parseMethodDescriptor "(JJI)Ljava/math/BigDecimal;" = some ⟨[.long, .long, .int], some (.object "java/math/BigDecimal")⟩ := by decide +kernel
def pL9 {L : List Value} := @lenOf _ _ _ own_pd9 L
theorem ef11 (b0 : Int64) (b1 : Int32) (b2 : Int64) (b3 : Int32) (m : MethodId) : entryFrame m #[.long b0, .int b1, .long b2, .int b3] 12 = mkF m 0 #[.val (.long b0), .second, .val (.int b1), .val (.long b2), .second, .val (.int b3), .unset, .unset, .unset, .unset, .unset, .unset] [] := by first | (simp [entryFrame, mkF, argsToLocals, Value.category]; done) | rfl
abbrev mM10 (l : Launch) := own_Met l (⟨"java/math/BigDecimal", "add", "(JIJI)Ljava/math/BigDecimal;"⟩ : MethodName) jdk_17_method_134_code 12 (some (.object "java/math/BigDecimal"))
theorem ct14 (O_0 : Old Z n0 h0) (k : own_K Z a0 g) (hH : H14  = true) :
 mM10 l ws (oR 5 1 5 74) #[(.long 4), (.int 0), (.long 0), (.int 9)] Z h0 fun v h L => ∃ (u029 : Addr), v = some (.ref u029) ∧ Fr n0 L ∧ Keep h0 h [] ∧ h0.size ≤ u029 ∧ Ee1 Z h u029 ∧ Ff2 Z h u029 (.long 4000000000) ∧ Ff6 Z h u029 .null ∧ Ff7 Z h u029 (.int 0) ∧ Ff3 Z h u029 (.int 9) := by
 refine o_body own_pn10 k.1 (ef11 _ _ _ _) ?_
 intro p e s m b _ c T0 X0 j e0
 have N0 := Fr.nil n0
 have Z0 := own_Z0 O_0
 obtain ⟨hh0, q0⟩ := o_ad hH
 obtain ⟨hh1, q1⟩ := o_ad q0
 obtain ⟨hh2, q2⟩ := o_ad q1
 refine o_iloadN X0 j (dc10 0 rfl) rfl ?_
 refine o_i2lL X0 j (dc10 1 rfl) 0 ?_
 refine o_iload X0 j (dc10 2 rfl) rfl ?_
 refine o_i2lL X0 j (dc10 3 rfl) 9 ?_
 refine o_lsubL X0 j (dc10 4 rfl) (-9) ?_
 refine o_lstore X0 j (dc10 5 rfl) (Ls' := #[sJ 4, s2, sI 0, sJ 0, s2, sI 9, sJ (-9), s2, sU, sU, sU, sU]) rfl ?_
 refine o_lload X0 j (dc10 6 rfl) rfl ?_
 refine o_lconstL X0 j (dc10 7 rfl) 0 ?_
 refine o_lcmp X0 j (dc10 8 rfl) ?_
 refine o_ifYes X0 j (dc10 9 rfl) 22 (feq (fun q => hh0 ((lw_eq (-9 : Int64) (0 : Int64)).mp q))).2 ?_
 refine o_lload X0 j (dc10 10 rfl) rfl ?_
 refine o_lconstL X0 j (dc10 11 rfl) 0 ?_
 refine o_lcmp X0 j (dc10 12 rfl) ?_
 refine o_ifNo X0 j (dc10 13 rfl) (tlt ((lw_lt (-9 : Int64) (0 : Int64)).mpr hh1)).2.1 ?_
 refine o_lloadN X0 j (dc10 14 rfl) rfl ?_
 refine o_lload X0 j (dc10 15 rfl) rfl ?_
 refine o_lnegL X0 j (dc10 16 rfl) 9 ?_
 refine o_callS X0 j (ct5 O_0 k) rfl rfl (pL7 rfl) (dc10 17 rfl) 57 58 34 59 ⟨rfl, rfl, rfl, rfl⟩ 0 e0 ?_
 rintro _ T27 L27 X27 ⟨rfl, M27, e27⟩
 have N27 := Fr.app N0 M27
 show oG p e b T27 m 36 #[sJ 4, s2, sI 0, sJ 0, s2, sI 9, sJ (-9), s2, sU, sU, sU, sU] [(.int 9)] _
 refine o_istore X27 j (dc10 18 rfl) (Ls' := #[sJ 4, s2, sI 0, sJ 0, s2, sI 9, sJ (-9), s2, sI 9, sU, sU, sU]) rfl ?_
 refine o_lloadN X27 j (dc10 19 rfl) rfl ?_
 refine o_iload X27 j (dc10 20 rfl) rfl ?_
 refine o_callS X27 j (ct7 O_0 k (by decide)) rfl rfl (pL8 rfl) (dc10 21 rfl) 60 61 34 62 ⟨rfl, rfl, rfl, rfl⟩ 0 e27 ?_
 rintro _ T28 L28 X28 ⟨rfl, M28, e28⟩
 have N28 := Fr.app N27 M28
 show oG p e b T28 m 44 #[sJ 4, s2, sI 0, sJ 0, s2, sI 9, sJ (-9), s2, sI 9, sU, sU, sU] [(.long 4000000000)] _
 refine o_lstore X28 j (dc10 22 rfl) (Ls' := #[sJ 4, s2, sI 0, sJ 0, s2, sI 9, sJ (-9), s2, sI 9, sJ 4000000000, s2, sU]) rfl ?_
 refine o_lload X28 j (dc10 23 rfl) rfl ?_
 refine o_ldc2 X28 j (dc10 24 rfl) 51 rfl ?_
 refine o_lcmp X28 j (dc10 25 rfl) ?_
 refine o_ifNo X28 j (dc10 26 rfl) (feq (fun q => hh2 ((lw_eq (4000000000 : Int64) (-9223372036854775808 : Int64)).mp q))).1 ?_
 refine o_lload X28 j (dc10 27 rfl) rfl ?_
 refine o_lloadN X28 j (dc10 28 rfl) rfl ?_
 refine o_iload X28 j (dc10 29 rfl) rfl ?_
 refine o_callS X28 j (ct13 O_0 k (by decide)) rfl rfl (pL9 rfl) (dc10 30 rfl) 69 70 34 71 ⟨rfl, rfl, rfl, rfl⟩ 0 e28 ?_
 rintro _ T29 L29 X29 ⟨u029, rfl, M29, K29, P029, P129, P229, P329, P429, P529⟩
 have N29 := Fr.app N28 M29
 have l29_0 := (ntr Z0 P029)
 show oG p e b T29 m 63 #[sJ 4, s2, sI 0, sJ 0, s2, sI 9, sJ (-9), s2, sI 9, sJ 4000000000, s2, sU] [(.ref u029)] _
 exact o_retA X29 j (dc10 31 rfl) rfl ⟨u029, rfl, N29, ((Keep.refl h0 []).trans K29 all0), P029, P129, P229, P329, P429, P529⟩
def H15  : Bool := decide (¬ (4 : Int64) = (-9223372036854775808 : Int64)) && (decide (¬ (0 : Int64) = (-9223372036854775808 : Int64)) && true)
theorem own_pn9 : plainFor (⟨"java/math/BigDecimal", "add", "(Ljava/math/BigDecimal;)Ljava/math/BigDecimal;"⟩ : MethodName) = true := plainFor_of_name (by first | (simp [plainName, overriddenIn]; done) | decide +kernel)
theorem own_pd10 : parseMethodDescriptor "(JIJI)Ljava/math/BigDecimal;" = some ⟨[.long, .int, .long, .int], some (.object "java/math/BigDecimal")⟩ := by decide +kernel
def pL10 {L : List Value} := @lenOf _ _ _ own_pd10 L
theorem ef12 (b0 b1 : Addr) (m : MethodId) : entryFrame m #[.ref b0, .ref b1] 2 = mkF m 0 #[.val (.ref b0), .val (.ref b1)] [] := by first | (simp [entryFrame, mkF, argsToLocals, Value.category]; done) | rfl
abbrev mM9 (l : Launch) := own_Met l (⟨"java/math/BigDecimal", "add", "(Ljava/math/BigDecimal;)Ljava/math/BigDecimal;"⟩ : MethodName) jdk_17_method_26_code 2 (some (.object "java/math/BigDecimal"))
theorem ct15 (a1 a2 : Addr) (O_0 : Old Z n0 h0) (k : own_K Z a0 g) (E_0 : Ee1 Z h0 a1) (F0intCompact : Ff2 Z h0 a1 (.long 4)) (F0scale : Ff3 Z h0 a1 (.int 0)) (E_1 : Ee1 Z h0 a2) (F1intCompact : Ff2 Z h0 a2 (.long 0)) (F1scale : Ff3 Z h0 a2 (.int 9)) (hH : H15  = true) :
 mM9 l ws (oR 6 1 5 97) #[(.ref a1), (.ref a2)] Z h0 fun v h L => ∃ (u036 : Addr), v = some (.ref u036) ∧ Fr n0 L ∧ Keep h0 h [] ∧ h0.size ≤ u036 ∧ Ee1 Z h u036 ∧ Ff2 Z h u036 (.long 4000000000) ∧ Ff6 Z h u036 .null ∧ Ff7 Z h u036 (.int 0) ∧ Ff3 Z h u036 (.int 9) := by
 refine o_body own_pn9 k.1 (ef12 _ _) ?_
 intro p e s m b _ c T0 X0 j e0
 have N0 := Fr.nil n0
 have Z0 := own_Z0 O_0
 obtain ⟨hh0, q0⟩ := o_ad hH
 obtain ⟨hh1, q1⟩ := o_ad q0
 refine o_aloadN X0 j (dc9 0 rfl) rfl rfl ?_
 refine o_getF X0 j (dc9 1 rfl) 49 rfl e0 F0intCompact fun T30 X30 e30 => ?_
 refine o_ldc2 X30 j (dc9 2 rfl) 51 rfl ?_
 refine o_lcmp X30 j (dc9 3 rfl) ?_
 refine o_ifNo X30 j (dc9 4 rfl) (feq (fun q => hh0 ((lw_eq (4 : Int64) (-9223372036854775808 : Int64)).mp q))).1 ?_
 refine o_aloadN X30 j (dc9 5 rfl) rfl rfl ?_
 refine o_getF X30 j (dc9 6 rfl) 49 rfl e30 F1intCompact fun T31 X31 e31 => ?_
 refine o_ldc2 X31 j (dc9 7 rfl) 51 rfl ?_
 refine o_lcmp X31 j (dc9 8 rfl) ?_
 refine o_ifNo X31 j (dc9 9 rfl) (feq (fun q => hh1 ((lw_eq (0 : Int64) (-9223372036854775808 : Int64)).mp q))).1 ?_
 refine o_aloadN X31 j (dc9 10 rfl) rfl rfl ?_
 refine o_getF X31 j (dc9 11 rfl) 49 rfl e31 F0intCompact fun T32 X32 e32 => ?_
 refine o_aloadN X32 j (dc9 12 rfl) rfl rfl ?_
 refine o_getF X32 j (dc9 13 rfl) 52 rfl e32 F0scale fun T33 X33 e33 => ?_
 refine o_aloadN X33 j (dc9 14 rfl) rfl rfl ?_
 refine o_getF X33 j (dc9 15 rfl) 49 rfl e33 F1intCompact fun T34 X34 e34 => ?_
 refine o_aloadN X34 j (dc9 16 rfl) rfl rfl ?_
 refine o_getF X34 j (dc9 17 rfl) 52 rfl e34 F1scale fun T35 X35 e35 => ?_
 refine o_callS X35 j (ct14 O_0 k (by decide)) rfl rfl (pL10 rfl) (dc9 18 rfl) 54 55 34 56 ⟨rfl, rfl, rfl, rfl⟩ 0 e35 ?_
 rintro _ T36 L36 X36 ⟨u036, rfl, M36, K36, P036, P136, P236, P336, P436, P536⟩
 have N36 := Fr.app N0 M36
 have l36_0 := (ntr Z0 P036)
 show oG p e b T36 m 41 #[sR a1, sR a2] [(.ref u036)] _
 exact o_retA X36 j (dc9 19 rfl) rfl ⟨u036, rfl, N36, ((Keep.refl h0 []).trans K36 all0), P036, P136, P236, P336, P436, P536⟩
theorem own_pn5 : plainFor (⟨"java/time/Duration", "toBigDecimalSeconds", "()Ljava/math/BigDecimal;"⟩ : MethodName) = true := plainFor_of_name (by first | (simp [plainName, overriddenIn]; done) | decide +kernel)
theorem own_pd11 : parseMethodDescriptor "(J)Ljava/math/BigDecimal;" = some ⟨[.long], some (.object "java/math/BigDecimal")⟩ := by decide +kernel
def pL11 {L : List Value} := @lenOf _ _ _ own_pd11 L
theorem own_pd12 : parseMethodDescriptor "(Ljava/math/BigDecimal;)Ljava/math/BigDecimal;" = some ⟨[(.object "java/math/BigDecimal")], some (.object "java/math/BigDecimal")⟩ := by decide +kernel
def pL12 {L : List Value} := @lenOf _ _ _ own_pd12 L
abbrev mM5 (l : Launch) := own_Met l (⟨"java/time/Duration", "toBigDecimalSeconds", "()Ljava/math/BigDecimal;"⟩ : MethodName) jdk_2316_method_47_code 1 (some (.object "java/math/BigDecimal"))
theorem ct16 (a1 : Addr) (O_0 : Old Z n0 h0) (k : own_K Z a0 g) (E_0 : Ee2 Z h0 a1) (F0nanos : Ff5 Z h0 a1 (.int 0)) (F0seconds : Ff4 Z h0 a1 (.long 4)) :
 mM5 l ws (oR 7 1 5 110) #[(.ref a1)] Z h0 fun v h L => ∃ (u041 : Addr), v = some (.ref u041) ∧ Fr n0 L ∧ Keep h0 h [] ∧ h0.size ≤ u041 ∧ Ee1 Z h u041 ∧ Ff2 Z h u041 (.long 4000000000) ∧ Ff6 Z h u041 .null ∧ Ff7 Z h u041 (.int 0) ∧ Ff3 Z h u041 (.int 9) := by
 refine o_body own_pn5 k.1 (ef8 _) ?_
 intro p e s m b _ c T0 X0 j e0
 have N0 := Fr.nil n0
 have Z0 := own_Z0 O_0
 refine o_aloadN X0 j (dc5 0 rfl) rfl rfl ?_
 refine o_getF X0 j (dc5 1 rfl) 18 rfl e0 F0seconds fun T37 X37 e37 => ?_
 refine o_callS X37 j (ct2 O_0 k (by decide)) rfl rfl (pL11 rfl) (dc5 2 rfl) 32 33 34 35 ⟨rfl, rfl, rfl, rfl⟩ 0 e37 ?_
 rintro _ T38 L38 X38 ⟨rfl, M38, e38⟩
 have N38 := Fr.app N0 M38
 show oG p e b T38 m 7 #[sR a1] [(.ref (g 14))] _
 refine o_aloadN X38 j (dc5 3 rfl) rfl rfl ?_
 refine o_getF X38 j (dc5 4 rfl) 25 rfl e38 F0nanos fun T39 X39 e39 => ?_
 refine o_i2lL X39 j (dc5 5 rfl) 0 ?_
 refine o_bipushL X39 j (dc5 6 rfl) 9 ?_
 refine o_callS X39 j (ct4 O_0 k) rfl rfl (pL6 rfl) (dc5 7 rfl) 37 38 34 39 ⟨rfl, rfl, rfl, rfl⟩ 1 e39 ?_
 rintro _ T40 L40 X40 ⟨rfl, M40, e40⟩
 have N40 := Fr.app N38 M40
 show oG p e b T40 m 17 #[sR a1] [(.ref (g 42)), (.ref (g 14))] _
 refine o_callV X40 j (ct15 (g 14) (g 42) O_0 k (((k14 k).ext O_0.2)) (((k15 k).ext O_0.2)) (((k16 k).ext O_0.2)) (((k20 k).ext O_0.2)) (((k21 k).ext O_0.2)) (((k22 k).ext O_0.2)) (by decide)) rfl rfl (pL12 rfl) (dc5 8 rfl) 44 45 47 46 48 34 ⟨rfl, rfl, rfl, rfl, rfl, rfl⟩ ((k14 k).ext O_0.2) 0 e40 ?_
 rintro _ T41 L41 X41 ⟨u041, rfl, M41, K41, P041, P141, P241, P341, P441, P541⟩
 have N41 := Fr.app N40 M41
 have l41_0 := (ntr Z0 P041)
 show oG p e b T41 m 20 #[sR a1] [(.ref u041)] _
 exact o_retA X41 j (dc5 9 rfl) rfl ⟨u041, rfl, N41, ((Keep.refl h0 []).trans K41 all0), P041, P141, P241, P341, P441, P541⟩
def H17 (x0 : Int64) : Bool := decide (¬ x0 < (0 : Int64)) && (decide (x0 < (11 : Int64)) && (decide ((x0.toInt32) = (2 : Int32)) && true))
theorem ct17 (x0 : Int64) (O_0 : Old Z n0 h0) (k : own_K Z a0 g) (hH : H17 x0 = true) :
 mM6 l ws (oR 0 0 0 0) #[(.long x0)] Z h0 fun v h L => v = some (.ref (g 8)) ∧ Fr n0 L ∧ h = h0 := by
 refine o_body own_pn6 k.1 (ef3 _) ?_
 intro p e s m b _ c T0 X0 j e0
 obtain ⟨hx, hby, hml, hown, hnm, hret, hlk, hZ, hw⟩ := id j
 have N0 := Fr.nil n0
 have Z0 := own_Z0 O_0
 obtain ⟨hh0, q0⟩ := o_ad hH
 obtain ⟨hh1, q1⟩ := o_ad q0
 obtain ⟨hh2, q2⟩ := o_ad q1
 refine o_lloadN X0 j (dc6 0 rfl) rfl ?_
 refine o_lconstL X0 j (dc6 1 rfl) 0 ?_
 refine o_lcmp X0 j (dc6 2 rfl) ?_
 refine o_ifNo X0 j (dc6 3 rfl) (flt (fun q => hh0 ((lw_lt x0 (0 : Int64)).mp q))).1 ?_
 refine o_lloadN X0 j (dc6 4 rfl) rfl ?_
 refine o_getS X0 j (dc6 5 rfl) 36 rfl e0 ((k0 k).ext O_0.2) fun T42 X42 e42 => ?_
 refine o_len X42 j (dc6 6 rfl) e42 (((k23 k).ext O_0.2)) 11 ?_
 refine o_i2lL X42 j (dc6 7 rfl) 11 ?_
 refine o_lcmp X42 j (dc6 8 rfl) ?_
 refine o_ifNo X42 j (dc6 9 rfl) (tlt ((lw_lt x0 (11 : Int64)).mpr hh1)).2.1 ?_
 refine o_getS X42 j (dc6 10 rfl) 36 rfl e42 ((k0 k).ext O_0.2) fun T43 X43 e43 => ?_
 refine o_lloadN X43 j (dc6 11 rfl) rfl ?_
 refine o_l2i X43 j (dc6 12 rfl) ?_
 refine own_aaload X43 hx hby rfl (dc6 13 rfl).1 (pc' := 22) rfl hZ e43 (((k23 k).ext O_0.2)) (by rw [hh2]; decide) (v := (.ref (g 8))) (by rw [hh2]; rfl) ?_
 exact o_retA X43 j (dc6 14 rfl) rfl ⟨rfl, N0, e43⟩
def H18 (x0 : Int64) : Bool := decide (((x0.toInt32).toInt64) = x0) && true
theorem own_pn20 : plainFor (⟨"java/math/BigDecimal", "checkScale", "(J)I"⟩ : MethodName) = true := plainFor_of_name (by first | (simp [plainName, overriddenIn]; done) | decide +kernel)
theorem ef13 (b0 : Addr) (b1 : Int64) (m : MethodId) : entryFrame m #[.ref b0, .long b1] 5 = mkF m 0 #[.val (.ref b0), .val (.long b1), .second, .unset, .unset] [] := by first | (simp [entryFrame, mkF, argsToLocals, Value.category]; done) | rfl
abbrev mM20 (l : Launch) := own_Met l (⟨"java/math/BigDecimal", "checkScale", "(J)I"⟩ : MethodName) jdk_17_method_106_code 5 (some .int)
theorem ct18 (a1 : Addr) (x0 : Int64) (O_0 : Old Z n0 h0) (k : own_K Z a0 g) (E_0 : Ee1 Z h0 a1) (hH : H18 x0 = true) :
 mM20 l ws (oR 0 0 0 0) #[(.ref a1), (.long x0)] Z h0 fun v h L => v = some (.int (x0.toInt32)) ∧ Fr n0 L ∧ h = h0 := by
 refine o_body own_pn20 k.1 (ef13 _ _) ?_
 intro p e s m b _ c T0 X0 j e0
 have N0 := Fr.nil n0
 have Z0 := own_Z0 O_0
 obtain ⟨hh0, q0⟩ := o_ad hH
 refine o_lloadN X0 j (dc20 0 rfl) rfl ?_
 refine o_l2i X0 j (dc20 1 rfl) ?_
 refine o_istoreN X0 j (dc20 2 rfl) (Ls' := #[sR a1, sJ x0, s2, sI (x0.toInt32), sU]) rfl ?_
 refine o_iloadN X0 j (dc20 3 rfl) rfl ?_
 refine o_i2l X0 j (dc20 4 rfl) ?_
 refine o_lloadN X0 j (dc20 5 rfl) rfl ?_
 refine o_lcmp X0 j (dc20 6 rfl) ?_
 refine o_ifYes X0 j (dc20 7 rfl) 76 (teq ((lw_eq ((x0.toInt32).toInt64) x0).mpr hh0)).1 ?_
 refine o_iloadN X0 j (dc20 8 rfl) rfl ?_
 exact o_retI X0 j (dc20 9 rfl) rfl ⟨rfl, N0, e0⟩
def H19 (x0 : Int64) : Bool := (H6 x0) && (decide (¬ ((((4000000000 : Int64) ||| x0).toUInt64 >>> ((31 : Int32) &&& 0x3f).toInt64.toUInt64).toInt64) = (0 : Int64)) && (decide (¬ x0 = (0 : Int64)) && (decide (x0 ≠ 0) && (decide ((((4000000000 : Int64) * x0) / x0) = (4000000000 : Int64)) && true))))
theorem own_pn22 : plainFor (⟨"java/math/BigDecimal", "multiply", "(JJ)J"⟩ : MethodName) = true := plainFor_of_name (by first | (simp [plainName, overriddenIn]; done) | decide +kernel)
theorem ef14 (b0 b1 : Int64) (m : MethodId) : entryFrame m #[.long b0, .long b1] 10 = mkF m 0 #[.val (.long b0), .second, .val (.long b1), .second, .unset, .unset, .unset, .unset, .unset, .unset] [] := by first | (simp [entryFrame, mkF, argsToLocals, Value.category]; done) | rfl
abbrev mM22 (l : Launch) := own_Met l (⟨"java/math/BigDecimal", "multiply", "(JJ)J"⟩ : MethodName) jdk_17_method_156_code 10 (some .long)
theorem ct19 (x0 : Int64) (O_0 : Old Z n0 h0) (k : own_K Z a0 g) (hH : H19 x0 = true) :
 mM22 l ws (oR 1 0 0 13) #[(.long 4000000000), (.long x0)] Z h0 fun v h L => v = some (.long ((4000000000 : Int64) * x0)) ∧ Fr n0 L ∧ h = h0 := by
 refine o_body own_pn22 k.1 (ef14 _ _) ?_
 intro p e s m b _ c T0 X0 j e0
 have N0 := Fr.nil n0
 have Z0 := own_Z0 O_0
 obtain ⟨hh0, q0⟩ := own_and hH
 obtain ⟨hh1, q1⟩ := o_ad q0
 obtain ⟨hh2, q2⟩ := o_ad q1
 obtain ⟨hh3, q3⟩ := o_ad q2
 obtain ⟨hh4, q4⟩ := o_ad q3
 refine o_lloadN X0 j (dc22 0 rfl) rfl ?_
 refine o_lloadN X0 j (dc22 1 rfl) rfl ?_
 refine o_lmul X0 j (dc22 2 rfl) ?_
 refine o_lstore X0 j (dc22 3 rfl) (Ls' := #[sJ 4000000000, s2, sJ x0, s2, sJ ((4000000000 : Int64) * x0), s2, sU, sU, sU, sU]) rfl ?_
 refine o_lloadN X0 j (dc22 4 rfl) rfl ?_
 refine o_callS X0 j (ct6 (4000000000 : Int64) O_0 k (by decide)) rfl rfl (pL2 rfl) (dc22 5 rfl) 65 66 67 68 ⟨rfl, rfl, rfl, rfl⟩ 0 e0 ?_
 rintro _ T44 L44 X44 ⟨rfl, M44, e44⟩
 have N44 := Fr.app N0 M44
 show oG p e b T44 m 9 #[sJ 4000000000, s2, sJ x0, s2, sJ ((4000000000 : Int64) * x0), s2, sU, sU, sU, sU] [(.long 4000000000)] _
 refine o_lstore X44 j (dc22 6 rfl) (Ls' := #[sJ 4000000000, s2, sJ x0, s2, sJ ((4000000000 : Int64) * x0), s2, sJ 4000000000, s2, sU, sU]) rfl ?_
 refine o_lloadN X44 j (dc22 7 rfl) rfl ?_
 refine o_callS X44 j (ct6 x0 O_0 k hh0) rfl rfl (pL2 rfl) (dc22 8 rfl) 65 66 67 68 ⟨rfl, rfl, rfl, rfl⟩ 0 e44 ?_
 rintro _ T45 L45 X45 ⟨rfl, M45, e45⟩
 have N45 := Fr.app N44 M45
 show oG p e b T45 m 15 #[sJ 4000000000, s2, sJ x0, s2, sJ ((4000000000 : Int64) * x0), s2, sJ 4000000000, s2, sU, sU] [(.long x0)] _
 refine o_lstore X45 j (dc22 9 rfl) (Ls' := #[sJ 4000000000, s2, sJ x0, s2, sJ ((4000000000 : Int64) * x0), s2, sJ 4000000000, s2, sJ x0, s2]) rfl ?_
 refine o_lload X45 j (dc22 10 rfl) rfl ?_
 refine o_lload X45 j (dc22 11 rfl) rfl ?_
 refine o_lor X45 j (dc22 12 rfl) ?_
 refine o_bipushL X45 j (dc22 13 rfl) 31 ?_
 refine o_lushr X45 j (dc22 14 rfl) ?_
 refine o_lconstL X45 j (dc22 15 rfl) 0 ?_
 refine o_lcmp X45 j (dc22 16 rfl) ?_
 refine o_ifNo X45 j (dc22 17 rfl) (feq (fun q => hh1 ((lw_eq ((((4000000000 : Int64) ||| x0).toUInt64 >>> ((31 : Int32) &&& 0x3f).toInt64.toUInt64).toInt64) (0 : Int64)).mp q))).1 ?_
 refine o_lloadN X45 j (dc22 18 rfl) rfl ?_
 refine o_lconstL X45 j (dc22 19 rfl) 0 ?_
 refine o_lcmp X45 j (dc22 20 rfl) ?_
 refine o_ifNo X45 j (dc22 21 rfl) (feq (fun q => hh2 ((lw_eq x0 (0 : Int64)).mp q))).1 ?_
 refine o_lload X45 j (dc22 22 rfl) rfl ?_
 refine o_lloadN X45 j (dc22 23 rfl) rfl ?_
 refine o_ldiv X45 j (dc22 24 rfl) hh3 ?_
 refine o_lloadN X45 j (dc22 25 rfl) rfl ?_
 refine o_lcmp X45 j (dc22 26 rfl) ?_
 refine o_ifNo X45 j (dc22 27 rfl) (teq ((lw_eq (((4000000000 : Int64) * x0) / x0) (4000000000 : Int64)).mpr hh4)).2 ?_
 refine o_lload X45 j (dc22 28 rfl) rfl ?_
 exact o_retJ X45 j (dc22 29 rfl) rfl ⟨rfl, N45, e45⟩
def H20 (x0 : Int64) : Bool := (H19 x0) && (decide (¬ ((4000000000 : Int64) * x0) = (-9223372036854775808 : Int64)) && ((H12 ((4000000000 : Int64) * x0)) && true))
theorem own_pn21 : plainFor (⟨"java/math/BigDecimal", "multiply", "(JJI)Ljava/math/BigDecimal;"⟩ : MethodName) = true := plainFor_of_name (by first | (simp [plainName, overriddenIn]; done) | decide +kernel)
abbrev mM21 (l : Launch) := own_Met l (⟨"java/math/BigDecimal", "multiply", "(JJI)Ljava/math/BigDecimal;"⟩ : MethodName) jdk_17_method_157_code 7 (some (.object "java/math/BigDecimal"))
theorem ct20 (x0 : Int64) (O_0 : Old Z n0 h0) (k : own_K Z a0 g) (hH : H20 x0 = true) :
 mM21 l ws (oR 4 1 5 56) #[(.long 4000000000), (.long x0), (.int 9)] Z h0 fun v h L => ∃ (u047 : Addr), v = some (.ref u047) ∧ Fr n0 L ∧ Keep h0 h [] ∧ h0.size ≤ u047 ∧ Ee1 Z h u047 ∧ Ff2 Z h u047 (.long ((4000000000 : Int64) * x0)) ∧ Ff6 Z h u047 .null ∧ Ff7 Z h u047 (.int 0) ∧ Ff3 Z h u047 (.int 9) := by
 refine o_body own_pn21 k.1 (ef10 _ _ _) ?_
 intro p e s m b _ c T0 X0 j e0
 have N0 := Fr.nil n0
 have Z0 := own_Z0 O_0
 obtain ⟨hh0, q0⟩ := own_and hH
 obtain ⟨hh1, q1⟩ := o_ad q0
 obtain ⟨hh2, q2⟩ := own_and q1
 refine o_lloadN X0 j (dc21 0 rfl) rfl ?_
 refine o_lloadN X0 j (dc21 1 rfl) rfl ?_
 refine o_callS X0 j (ct19 x0 O_0 k hh0) rfl rfl (pL5 rfl) (dc21 2 rfl) 108 109 34 110 ⟨rfl, rfl, rfl, rfl⟩ 0 e0 ?_
 rintro _ T46 L46 X46 ⟨rfl, M46, e46⟩
 have N46 := Fr.app N0 M46
 show oG p e b T46 m 5 #[sJ 4000000000, s2, sJ x0, s2, sI 9, sU, sU] [(.long ((4000000000 : Int64) * x0))] _
 refine o_lstore X46 j (dc21 3 rfl) (Ls' := #[sJ 4000000000, s2, sJ x0, s2, sI 9, sJ ((4000000000 : Int64) * x0), s2]) rfl ?_
 refine o_lload X46 j (dc21 4 rfl) rfl ?_
 refine o_ldc2 X46 j (dc21 5 rfl) 51 rfl ?_
 refine o_lcmp X46 j (dc21 6 rfl) ?_
 refine o_ifNo X46 j (dc21 7 rfl) (feq (fun q => hh1 ((lw_eq ((4000000000 : Int64) * x0) (-9223372036854775808 : Int64)).mp q))).1 ?_
 refine o_lload X46 j (dc21 8 rfl) rfl ?_
 refine o_iload X46 j (dc21 9 rfl) rfl ?_
 refine o_callS X46 j (ct12 ((4000000000 : Int64) * x0) O_0 k hh2) rfl rfl (pL6 rfl) (dc21 10 rfl) 75 38 34 39 ⟨rfl, rfl, rfl, rfl⟩ 0 e46 ?_
 rintro _ T47 L47 X47 ⟨u047, rfl, M47, K47, P047, P147, P247, P347, P447, P547⟩
 have N47 := Fr.app N46 M47
 have l47_0 := (ntr Z0 P047)
 show oG p e b T47 m 23 #[sJ 4000000000, s2, sJ x0, s2, sI 9, sJ ((4000000000 : Int64) * x0), s2] [(.ref u047)] _
 exact o_retA X47 j (dc21 11 rfl) rfl ⟨u047, rfl, N47, ((Keep.refl h0 []).trans K47 all0), P047, P147, P247, P347, P447, P547⟩
def H21 (x0 : Int64) : Bool := decide (¬ (4000000000 : Int64) = (-9223372036854775808 : Int64)) && (decide (¬ x0 = (-9223372036854775808 : Int64)) && ((H20 x0) && true))
theorem own_pn19 : plainFor (⟨"java/math/BigDecimal", "multiply", "(Ljava/math/BigDecimal;)Ljava/math/BigDecimal;"⟩ : MethodName) = true := plainFor_of_name (by first | (simp [plainName, overriddenIn]; done) | decide +kernel)
theorem own_pd13 : parseMethodDescriptor "(J)I" = some ⟨[.long], some .int⟩ := by decide +kernel
def pL13 {L : List Value} := @lenOf _ _ _ own_pd13 L
theorem ef15 (b0 b1 : Addr) (m : MethodId) : entryFrame m #[.ref b0, .ref b1] 3 = mkF m 0 #[.val (.ref b0), .val (.ref b1), .unset] [] := by first | (simp [entryFrame, mkF, argsToLocals, Value.category]; done) | rfl
abbrev mM19 (l : Launch) := own_Met l (⟨"java/math/BigDecimal", "multiply", "(Ljava/math/BigDecimal;)Ljava/math/BigDecimal;"⟩ : MethodName) jdk_17_method_31_code 3 (some (.object "java/math/BigDecimal"))
theorem ct21 (a1 a2 : Addr) (x0 : Int64) (O_0 : Old Z n0 h0) (k : own_K Z a0 g) (E_0 : Ee1 Z h0 a1) (F0intCompact : Ff2 Z h0 a1 (.long 4000000000)) (F0scale : Ff3 Z h0 a1 (.int 9)) (E_1 : Ee1 Z h0 a2) (F1intCompact : Ff2 Z h0 a2 (.long x0)) (F1scale : Ff3 Z h0 a2 (.int 0)) (hH : H21 x0 = true) :
 mM19 l ws (oR 5 1 5 74) #[(.ref a1), (.ref a2)] Z h0 fun v h L => ∃ (u055 : Addr), v = some (.ref u055) ∧ Fr n0 L ∧ Keep h0 h [] ∧ h0.size ≤ u055 ∧ Ee1 Z h u055 ∧ Ff2 Z h u055 (.long ((4000000000 : Int64) * x0)) ∧ Ff6 Z h u055 .null ∧ Ff7 Z h u055 (.int 0) ∧ Ff3 Z h u055 (.int 9) := by
 refine o_body own_pn19 k.1 (ef15 _ _) ?_
 intro p e s m b _ c T0 X0 j e0
 have N0 := Fr.nil n0
 have Z0 := own_Z0 O_0
 obtain ⟨hh0, q0⟩ := o_ad hH
 obtain ⟨hh1, q1⟩ := o_ad q0
 obtain ⟨hh2, q2⟩ := own_and q1
 refine o_aloadN X0 j (dc19 0 rfl) rfl rfl ?_
 refine o_aloadN X0 j (dc19 1 rfl) rfl rfl ?_
 refine o_getF X0 j (dc19 2 rfl) 52 rfl e0 F0scale fun T48 X48 e48 => ?_
 refine o_i2lL X48 j (dc19 3 rfl) 9 ?_
 refine o_aloadN X48 j (dc19 4 rfl) rfl rfl ?_
 refine o_getF X48 j (dc19 5 rfl) 52 rfl e48 F1scale fun T49 X49 e49 => ?_
 refine o_i2lL X49 j (dc19 6 rfl) 0 ?_
 refine o_laddL X49 j (dc19 7 rfl) 9 ?_
 refine o_callPv X49 j (ct18 a1 (9 : Int64) O_0 k E_0 (by decide)) rfl rfl (pL13 rfl) (dc19 8 rfl) 100 102 103 101 104 34 ⟨rfl, rfl, rfl, rfl, rfl, rfl⟩ E_0 0 e49 ?_
 rintro _ T50 L50 X50 ⟨hv50, M50, e50⟩
 rw [show ((9 : Int64).toInt32) = (9 : Int32) from by decide +kernel] at hv50
 subst hv50
 have N50 := Fr.app N0 M50
 show oG p e b T50 m 15 #[sR a1, sR a2, sU] [(.int 9)] _
 refine o_istoreN X50 j (dc19 9 rfl) (Ls' := #[sR a1, sR a2, sI 9]) rfl ?_
 refine o_aloadN X50 j (dc19 10 rfl) rfl rfl ?_
 refine o_getF X50 j (dc19 11 rfl) 49 rfl e50 F0intCompact fun T51 X51 e51 => ?_
 refine o_ldc2 X51 j (dc19 12 rfl) 51 rfl ?_
 refine o_lcmp X51 j (dc19 13 rfl) ?_
 refine o_ifNo X51 j (dc19 14 rfl) (feq (fun q => hh0 ((lw_eq (4000000000 : Int64) (-9223372036854775808 : Int64)).mp q))).1 ?_
 refine o_aloadN X51 j (dc19 15 rfl) rfl rfl ?_
 refine o_getF X51 j (dc19 16 rfl) 49 rfl e51 F1intCompact fun T52 X52 e52 => ?_
 refine o_ldc2 X52 j (dc19 17 rfl) 51 rfl ?_
 refine o_lcmp X52 j (dc19 18 rfl) ?_
 refine o_ifNo X52 j (dc19 19 rfl) (feq (fun q => hh1 ((lw_eq x0 (-9223372036854775808 : Int64)).mp q))).1 ?_
 refine o_aloadN X52 j (dc19 20 rfl) rfl rfl ?_
 refine o_getF X52 j (dc19 21 rfl) 49 rfl e52 F0intCompact fun T53 X53 e53 => ?_
 refine o_aloadN X53 j (dc19 22 rfl) rfl rfl ?_
 refine o_getF X53 j (dc19 23 rfl) 49 rfl e53 F1intCompact fun T54 X54 e54 => ?_
 refine o_iloadN X54 j (dc19 24 rfl) rfl ?_
 refine o_callS X54 j (ct20 x0 O_0 k hh2) rfl rfl (pL9 rfl) (dc19 25 rfl) 105 106 34 107 ⟨rfl, rfl, rfl, rfl⟩ 0 e54 ?_
 rintro _ T55 L55 X55 ⟨u055, rfl, M55, K55, P055, P155, P255, P355, P455, P555⟩
 have N55 := Fr.app N50 M55
 have l55_0 := (ntr Z0 P055)
 show oG p e b T55 m 50 #[sR a1, sR a2, sI 9] [(.ref u055)] _
 exact o_retA X55 j (dc19 26 rfl) rfl ⟨u055, rfl, N55, ((Keep.refl h0 []).trans K55 all0), P055, P155, P255, P355, P455, P555⟩
theorem own_pn24 : plainFor (⟨"java/math/BigDecimal", "movePointRight", "(I)Ljava/math/BigDecimal;"⟩ : MethodName) = true := plainFor_of_name (by first | (simp [plainName, overriddenIn]; done) | decide +kernel)
theorem ef16 (b0 : Addr) (b1 : Int32) (m : MethodId) : entryFrame m #[.ref b0, .int b1] 4 = mkF m 0 #[.val (.ref b0), .val (.int b1), .unset, .unset] [] := by first | (simp [entryFrame, mkF, argsToLocals, Value.category]; done) | rfl
abbrev mM24 (l : Launch) := own_Met l (⟨"java/math/BigDecimal", "movePointRight", "(I)Ljava/math/BigDecimal;"⟩ : MethodName) jdk_17_method_67_code 4 (some (.object "java/math/BigDecimal"))
theorem ct22 (a1 : Addr) (x0 : Int64) (O_0 : Old Z n0 h0) (k : own_K Z a0 g) (E_0 : Ee1 Z h0 a1) (F0intCompact : Ff2 Z h0 a1 (.long x0)) (F0intVal : Ff6 Z h0 a1 .null) (F0scale : Ff3 Z h0 a1 (.int 9)) :
 mM24 l ws (oR 3 1 5 42) #[(.ref a1), (.int 9)] Z h0 fun v h L => ∃ (b58 : Addr), v = some (.ref b58) ∧ Fr n0 L ∧ Keep h0 h [] ∧ h0.size ≤ b58 ∧ Ee1 Z h b58 ∧ Ff2 Z h b58 (.long x0) ∧ Ff6 Z h b58 .null ∧ Ff7 Z h b58 (.int 0) ∧ Ff3 Z h b58 (.int 0) := by
 refine o_body own_pn24 k.1 (ef16 _ _) ?_
 intro p e s m b _ c T0 X0 j e0
 have N0 := Fr.nil n0
 have Z0 := own_Z0 O_0
 refine o_iloadN X0 j (dc24 0 rfl) rfl ?_
 refine o_ifYesD X0 j (dc24 1 rfl) 13 ?_
 refine o_aloadN X0 j (dc24 2 rfl) rfl rfl ?_
 refine o_aloadN X0 j (dc24 3 rfl) rfl rfl ?_
 refine o_getF X0 j (dc24 4 rfl) 52 rfl e0 F0scale fun T56 X56 e56 => ?_
 refine o_i2lL X56 j (dc24 5 rfl) 9 ?_
 refine o_iloadN X56 j (dc24 6 rfl) rfl ?_
 refine o_i2lL X56 j (dc24 7 rfl) 9 ?_
 refine o_lsubL X56 j (dc24 8 rfl) 0 ?_
 refine o_callPv X56 j (ct18 a1 (0 : Int64) O_0 k E_0 (by decide)) rfl rfl (pL13 rfl) (dc24 9 rfl) 100 102 103 101 104 34 ⟨rfl, rfl, rfl, rfl, rfl, rfl⟩ E_0 0 e56 ?_
 rintro _ T57 L57 X57 ⟨hv57, M57, e57⟩
 rw [show ((0 : Int64).toInt32) = (0 : Int32) from by decide +kernel] at hv57
 subst hv57
 have N57 := Fr.app N0 M57
 show oG p e b T57 m 25 #[sR a1, sI 9, sU, sU] [(.int 0)] _
 refine o_istoreN X57 j (dc24 10 rfl) (Ls' := #[sR a1, sI 9, sI 0, sU]) rfl ?_
 refine o_new X57 j (dc24 11 rfl) 76 77 34 ⟨rfl, rfl, rfl⟩ e57 fun T58 h58 b58 X58 e58 g58 E58 A58 D58 => ?_
 have F58_intCompact : Ff2 Z h58 b58 (.long 0) := D58 (Or.inr (ot k 50 rfl)) (ty := .long) (by decide)
 have F58_scale : Ff3 Z h58 b58 (.int 0) := D58 (Or.inr (ot k 53 rfl)) (ty := .int) (by decide)
 have F58_precision : Ff7 Z h58 b58 (.int 0) := D58 (Or.inl (ot k 92 rfl)) (ty := .int) (by decide)
 have F58_intVal : Ff6 Z h58 b58 .null := D58 (Or.inr (ot k 94 rfl)) (ty := (.object "java/math/BigInteger")) (by decide)
 have z58 := ntr (Nat.le_refl _) (nqs g58)
 have l58 := (ntr Z0 z58)
 refine o_dup X58 j (dc24 12 rfl) rfl ?_
 refine o_aloadN X58 j (dc24 13 rfl) rfl rfl ?_
 refine o_getF X58 j (dc24 14 rfl) 93 rfl e58 (F0intVal.ext E58) fun T59 X59 e59 => ?_
 refine o_aloadN X59 j (dc24 15 rfl) rfl rfl ?_
 refine o_getF X59 j (dc24 16 rfl) 49 rfl e59 (F0intCompact.ext E58) fun T60 X60 e60 => ?_
 refine o_iloadN X60 j (dc24 17 rfl) rfl ?_
 refine o_iconstL X60 j (dc24 18 rfl) 0 ?_
 refine o_callSp X60 j (ct11 b58 x0 (0 : Int32) ((O_0.ext E58)) k A58 (F58_intCompact) (F58_intVal) (F58_precision) (F58_scale) l58) rfl rfl (pL4 rfl) (dc24 19 rfl) 78 79 81 34 ⟨rfl, rfl, rfl, rfl⟩ 1 e60 ?_
 rintro _ T61 L61 X61 ⟨rfl, M61, K61, P061, P161, P261, P361⟩
 have N61 := Fr.app N57 M61
 show oG p e b T61 m 43 #[sR a1, sI 9, sI 0, sU] [(.ref b58)] _
 refine o_astoreN X61 j (dc24 20 rfl) rfl (Ls' := #[sR a1, sI 9, sI 0, sR b58]) rfl ?_
 refine o_aloadN X61 j (dc24 21 rfl) rfl rfl ?_
 refine o_getF X61 j (dc24 22 rfl) 52 rfl rfl P361 fun T62 X62 e62 => ?_
 refine o_ifYesD X62 j (dc24 23 rfl) 61 ?_
 refine o_aloadN X62 j (dc24 24 rfl) rfl rfl ?_
 exact o_retA X62 j (dc24 25 rfl) e62 ⟨b58, rfl, N61, (((Keep.refl h0 []).ext E58).trans K61 (allS (Or.inr z58) all0)), z58, (A58.keep K61), P061, P161, P261, P361⟩
theorem own_pn26 : plainFor (⟨"java/math/BigDecimal", "setScale", "(II)Ljava/math/BigDecimal;"⟩ : MethodName) = true := plainFor_of_name (by first | (simp [plainName, overriddenIn]; done) | decide +kernel)
theorem ef17 (b0 : Addr) (b1 b2 : Int32) (m : MethodId) : entryFrame m #[.ref b0, .int b1, .int b2] 8 = mkF m 0 #[.val (.ref b0), .val (.int b1), .val (.int b2), .unset, .unset, .unset, .unset, .unset] [] := by first | (simp [entryFrame, mkF, argsToLocals, Value.category]; done) | rfl
abbrev mM26 (l : Launch) := own_Met l (⟨"java/math/BigDecimal", "setScale", "(II)Ljava/math/BigDecimal;"⟩ : MethodName) jdk_17_method_64_code 8 (some (.object "java/math/BigDecimal"))
theorem ct23 (a1 : Addr) (O_0 : Old Z n0 h0) (k : own_K Z a0 g) (E_0 : Ee1 Z h0 a1) (F0scale : Ff3 Z h0 a1 (.int 0)) :
 mM26 l ws (oR 0 0 0 0) #[(.ref a1), (.int 0), (.int 7)] Z h0 fun v h L => v = some (.ref a1) ∧ Fr n0 L ∧ h = h0 := by
 refine o_body own_pn26 k.1 (ef17 _ _ _) ?_
 intro p e s m b _ c T0 X0 j e0
 have N0 := Fr.nil n0
 have Z0 := own_Z0 O_0
 refine o_iloadN X0 j (dc26 0 rfl) rfl ?_
 refine o_ifNoD X0 j (dc26 1 rfl) ?_
 refine o_iloadN X0 j (dc26 2 rfl) rfl ?_
 refine o_bipushL X0 j (dc26 3 rfl) 7 ?_
 refine o_icmpYesD X0 j (dc26 4 rfl) 21 ?_
 refine o_aloadN X0 j (dc26 5 rfl) rfl rfl ?_
 refine o_getF X0 j (dc26 6 rfl) 52 rfl e0 F0scale fun T63 X63 e63 => ?_
 refine o_istoreN X63 j (dc26 7 rfl) (Ls' := #[sR a1, sI 0, sI 7, sI 0, sU, sU, sU, sU]) rfl ?_
 refine o_iloadN X63 j (dc26 8 rfl) rfl ?_
 refine o_iloadN X63 j (dc26 9 rfl) rfl ?_
 refine o_icmpNoD X63 j (dc26 10 rfl) ?_
 refine o_aloadN X63 j (dc26 11 rfl) rfl rfl ?_
 exact o_retA X63 j (dc26 12 rfl) rfl ⟨rfl, N0, e63⟩
theorem ct25 (a1 : Addr) (O_0 : Old Z n0 h0) (k : own_K Z a0 g) (E_0 : Ee0 Z h0 a1) :
 mM17 l ws (oR 1 0 0 12) #[(.ref a1)] Z h0 fun v h L => v = none ∧ Fr n0 L ∧ h = h0 := by
 refine o_body own_pn17 k.1 (ef8 _) ?_
 intro p e s m b _ c T0 X0 j e0
 have N0 := Fr.nil n0
 have Z0 := own_Z0 O_0
 refine o_aloadN X0 j (dc17 0 rfl) rfl rfl ?_
 refine o_initO X0 j (dc17 1 rfl) 88 89 90 ⟨rfl, rfl, rfl⟩ e0 0 fun T64 X64 e64 => ?_
 show oG p e b T64 m 4 #[sR a1] [] _
 exact o_retV X64 j (dc17 2 rfl) rfl ⟨rfl, N0, e64⟩
def D26_0 (x0 : Int64) : Int32 := (((x0.toUInt64 >>> ((32 : Int32) &&& 0x3f).toInt64.toUInt64).toInt64).toInt32)
def H26 (x0 : Int64) : Bool := decide (¬ x0 < (0 : Int64)) && (decide (¬ (D26_0 x0) = (0 : Int32)) && true)
theorem own_pn29 : plainFor (⟨"java/math/BigInteger", "<init>", "(J)V"⟩ : MethodName) = true := plainFor_of_name (by first | (simp [plainName, overriddenIn]; done) | decide +kernel)
theorem ef18 (b0 : Addr) (b1 : Int64) (m : MethodId) : entryFrame m #[.ref b0, .long b1] 4 = mkF m 0 #[.val (.ref b0), .val (.long b1), .second, .unset] [] := by first | (simp [entryFrame, mkF, argsToLocals, Value.category]; done) | rfl
abbrev mM29 (l : Launch) := own_Met l (⟨"java/math/BigInteger", "<init>", "(J)V"⟩ : MethodName) jdk_2097_method_30_code 4 none
def sn12 (k : own_K Z a0 g) := slot_ne (Or.inr (ot k 151 rfl)) (Or.inr (ot k 148 rfl)) (by decide) (t := (.array .int)) (t' := .int) (by decide) (by decide)
def sn13 (k : own_K Z a0 g) := slot_ne (Or.inl (ot k 261 rfl)) (Or.inr (ot k 148 rfl)) (by decide) (t := .int) (t' := .int) (by decide) (by decide)
def sn14 (k : own_K Z a0 g) := slot_ne (Or.inl (ot k 261 rfl)) (Or.inr (ot k 151 rfl)) (by decide) (t := .int) (t' := (.array .int)) (by decide) (by decide)
def sn15 (k : own_K Z a0 g) := slot_ne (Or.inr (ot k 148 rfl)) (Or.inr (ot k 151 rfl)) (by decide) (t := .int) (t' := (.array .int)) (by decide) (by decide)
theorem ct26 (a1 : Addr) (x0 : Int64) (O_0 : Old Z n0 h0) (k : own_K Z a0 g) (E_0 : Ee0 Z h0 a1) (F0bitLengthPlusOne : Ff8 Z h0 a1 (.int 0)) (F0mag : Ff1 Z h0 a1 .null) (F0signum : Ff0 Z h0 a1 (.int 0)) (G_0 : n0 ≤ a1) (hH : H26 x0 = true) :
 mM29 l ws (oR 2 1 2 24) #[(.ref a1), (.long x0)] Z h0 fun v h L => ∃ (b67 : Addr), v = none ∧ Fr n0 L ∧ Keep h0 h [a1] ∧ h0.size ≤ b67 ∧ own_Ar Z h b67 .int [(.int (D26_0 x0)), (.int (x0.toInt32))] ∧ Ff8 Z h a1 (.int 0) ∧ Ff1 Z h a1 (.ref b67) ∧ Ff0 Z h a1 (.int 1) := by
 refine o_body own_pn29 k.1 (ef18 _ _) ?_
 intro p e s m b _ c T0 X0 j e0
 have N0 := Fr.nil n0
 have Z0 := own_Z0 O_0
 obtain ⟨hh0, q0⟩ := o_ad hH
 obtain ⟨hh1, q1⟩ := o_ad q0
 refine o_aloadN X0 j (dc29 0 rfl) rfl rfl ?_
 refine o_callSp X0 j (ct25 a1 O_0 k E_0) rfl rfl (pL3 rfl) (dc29 1 rfl) 145 83 87 86 ⟨rfl, rfl, rfl, rfl⟩ 0 e0 ?_
 rintro _ T65 L65 X65 ⟨rfl, M65, e65⟩
 have N65 := Fr.app N0 M65
 show oG p e b T65 m 4 #[sR a1, sJ x0, s2, sU] [] _
 refine o_lloadN X65 j (dc29 2 rfl) rfl ?_
 refine o_lconstL X65 j (dc29 3 rfl) 0 ?_
 refine o_lcmp X65 j (dc29 4 rfl) ?_
 refine o_ifYes X65 j (dc29 5 rfl) 21 (flt (fun q => hh0 ((lw_lt x0 (0 : Int64)).mp q))).2.1 ?_
 refine o_aloadN X65 j (dc29 6 rfl) rfl rfl ?_
 refine o_iconstL X65 j (dc29 7 rfl) 1 ?_
 refine o_putf X65 j (dc29 8 rfl) 147 148 140 ⟨rfl, rfl, rfl⟩ .int e65 F0signum E_0 fun T66 h66 X66 e66 W66 => ?_
 have F66 := (F0signum).same W66
 have N66 := Fr.snoc X66 N65 G_0
 refine o_lloadN X66 j (dc29 9 rfl) rfl ?_
 refine o_bipushL X66 j (dc29 10 rfl) 32 ?_
 refine o_lushr X66 j (dc29 11 rfl) ?_
 refine o_l2i X66 j (dc29 12 rfl) ?_
 refine o_istoreN X66 j (dc29 13 rfl) (Ls' := #[sR a1, sJ x0, s2, sI (D26_0 x0)]) rfl ?_
 refine o_iloadN X66 j (dc29 14 rfl) rfl ?_
 refine o_ifYes X66 j (dc29 15 rfl) 54 (feq hh1).2 ?_
 refine o_aloadN X66 j (dc29 27 rfl) rfl rfl ?_
 refine o_iconstL X66 j (dc29 28 rfl) 2 ?_
 refine o_newA X66 j (dc29 29 rfl) 149 rfl e66 2 [(.int 0), (.int 0)] fun T67 h67 b67 X67 e67 g67 E67 A67 => ?_
 have z67 := ntr (nqs (Wr.size W66)) (nqs g67)
 have l67 := (ntr Z0 z67)
 have y69 := ((F0mag.other W66 (Or.inr (sn12 k))).ext E67)
 refine o_putf X67 j (dc29 30 rfl) 150 151 140 ⟨rfl, rfl, rfl⟩ (.array .int) e67 y69 ((E_0.wr W66).ext E67) fun T68 h68 X68 e68 W68 => ?_
 have F68 := y69.same W68
 have N68 := Fr.snoc X68 N66 G_0
 refine o_aloadN X68 j (dc29 31 rfl) rfl rfl ?_
 refine o_getF X68 j (dc29 32 rfl) 150 rfl e68 F68 fun T70 X70 e70 => ?_
 refine o_iconstL X70 j (dc29 33 rfl) 0 ?_
 refine o_iloadN X70 j (dc29 34 rfl) rfl ?_
 have d72 := (nne (nlt (nlt E_0.lt (nqs (Wr.size W66))) (nqs g67)))
 have d73 := (Ne.symm d72)
 refine o_iastore X70 j (dc29 35 rfl) e70 ((A67.other W68 d73)) (.int 0) fun T71 h71 X71 e71 W71 A71 => ?_
 have B71 : own_Ar Z h71 b67 .int [(.int (D26_0 x0)), (.int 0)] := A71
 have N71 := Fr.snoc X71 N68 l67
 refine o_aloadN X71 j (dc29 36 rfl) rfl rfl ?_
 refine o_getF X71 j (dc29 37 rfl) 150 rfl e71 (F68.other W71 (Or.inl d72)) fun T74 X74 e74 => ?_
 refine o_iconstL X74 j (dc29 38 rfl) 1 ?_
 refine o_lloadN X74 j (dc29 39 rfl) rfl ?_
 refine o_l2i X74 j (dc29 40 rfl) ?_
 refine o_iastore X74 j (dc29 41 rfl) e74 B71 (.int 0) fun T75 h75 X75 e75 W75 A75 => ?_
 have B75 : own_Ar Z h75 b67 .int [(.int (D26_0 x0)), (.int (x0.toInt32))] := A75
 have N75 := Fr.snoc X75 N71 l67
 have y76 := (((((F0bitLengthPlusOne.other W66 (Or.inr (sn13 k))).ext E67).other W68 (Or.inr (sn14 k))).other W71 (Or.inl d72)).other W75 (Or.inl d72))
 have y77 := ((F68.other W71 (Or.inl d72)).other W75 (Or.inl d72))
 have y78 := ((((F66.ext E67).other W68 (Or.inr (sn15 k))).other W71 (Or.inl d72)).other W75 (Or.inl d72))
 exact o_retV X75 j (dc29 42 rfl) e75 ⟨b67, rfl, N75, ((((((Keep.refl h0 [a1]).wr W66 (mI 0 rfl)).ext E67).wr W68 (mI 0 rfl)).wr W71 (Or.inr z67)).wr W75 (Or.inr z67)), z67, B75, y76, y77, y78⟩
def H27 (x0 : Int64) : Bool := decide (¬ x0 = (0 : Int64)) && (decide ((0 : Int64) < x0) && (decide ((16 : Int64) < x0) && (decide (¬ x0 < (0 : Int64)) && ((H26 x0) && true))))
theorem own_pn28 : plainFor (⟨"java/math/BigInteger", "valueOf", "(J)Ljava/math/BigInteger;"⟩ : MethodName) = true := plainFor_of_name (by first | (simp [plainName, overriddenIn]; done) | decide +kernel)
theorem own_pd14 : parseMethodDescriptor "(J)V" = some ⟨[.long], none⟩ := by decide +kernel
def pL14 {L : List Value} := @lenOf _ _ _ own_pd14 L
abbrev mM28 (l : Launch) := own_Met l (⟨"java/math/BigInteger", "valueOf", "(J)Ljava/math/BigInteger;"⟩ : MethodName) jdk_2097_method_29_code 2 (some (.object "java/math/BigInteger"))
theorem ct27 (x0 : Int64) (O_0 : Old Z n0 h0) (k : own_K Z a0 g) (hH : H27 x0 = true) :
 mM28 l ws (oR 3 2 8 40) #[(.long x0)] Z h0 fun v h L => ∃ (b79 : Addr) (u080 : Addr), v = some (.ref b79) ∧ Fr n0 L ∧ Keep h0 h [] ∧ h0.size ≤ b79 ∧ h0.size ≤ u080 ∧ u080 ≠ b79 ∧ Ee0 Z h b79 ∧ Ff8 Z h b79 (.int 0) ∧ Ff1 Z h b79 (.ref u080) ∧ Ff0 Z h b79 (.int 1) ∧ own_Ar Z h u080 .int [(.int (D26_0 x0)), (.int (x0.toInt32))] := by
 refine o_body own_pn28 k.1 (ef3 _) ?_
 intro p e s m b _ c T0 X0 j e0
 have N0 := Fr.nil n0
 have Z0 := own_Z0 O_0
 obtain ⟨hh0, q0⟩ := o_ad hH
 obtain ⟨hh1, q1⟩ := o_ad q0
 obtain ⟨hh2, q2⟩ := o_ad q1
 obtain ⟨hh3, q3⟩ := o_ad q2
 obtain ⟨hh4, q4⟩ := own_and q3
 refine o_lloadN X0 j (dc28 0 rfl) rfl ?_
 refine o_lconstL X0 j (dc28 1 rfl) 0 ?_
 refine o_lcmp X0 j (dc28 2 rfl) ?_
 refine o_ifYes X0 j (dc28 3 rfl) 10 (feq (fun q => hh0 ((lw_eq x0 (0 : Int64)).mp q))).2 ?_
 refine o_lloadN X0 j (dc28 4 rfl) rfl ?_
 refine o_lconstL X0 j (dc28 5 rfl) 0 ?_
 refine o_lcmp X0 j (dc28 6 rfl) ?_
 refine o_ifNo X0 j (dc28 7 rfl) (tlt ((lw_gt x0 (0 : Int64)).mpr hh1)).2.2.2 ?_
 refine o_lloadN X0 j (dc28 8 rfl) rfl ?_
 refine o_ldc2 X0 j (dc28 9 rfl) 138 rfl ?_
 refine o_lcmp X0 j (dc28 10 rfl) ?_
 refine o_ifYes X0 j (dc28 11 rfl) 31 (tlt ((lw_gt x0 (16 : Int64)).mpr hh2)).2.2.1 ?_
 refine o_lloadN X0 j (dc28 12 rfl) rfl ?_
 refine o_lconstL X0 j (dc28 13 rfl) 0 ?_
 refine o_lcmp X0 j (dc28 14 rfl) ?_
 refine o_ifYes X0 j (dc28 15 rfl) 53 (flt (fun q => hh3 ((lw_lt x0 (0 : Int64)).mp q))).2.1 ?_
 refine o_new X0 j (dc28 16 rfl) 139 140 136 ⟨rfl, rfl, rfl⟩ e0 fun T79 h79 b79 X79 e79 g79 E79 A79 D79 => ?_
 have F79_signum : Ff0 Z h79 b79 (.int 0) := D79 (Or.inr (ot k 148 rfl)) (ty := .int) (by decide)
 have F79_mag : Ff1 Z h79 b79 .null := D79 (Or.inr (ot k 151 rfl)) (ty := (.array .int)) (by decide)
 have F79_bitLengthPlusOne : Ff8 Z h79 b79 (.int 0) := D79 (Or.inl (ot k 261 rfl)) (ty := .int) (by decide)
 have z79 := ntr (Nat.le_refl _) (nqs g79)
 have l79 := (ntr Z0 z79)
 refine o_dup X79 j (dc28 17 rfl) rfl ?_
 refine o_lloadN X79 j (dc28 18 rfl) rfl ?_
 refine o_callSp X79 j (ct26 b79 x0 ((O_0.ext E79)) k A79 (F79_bitLengthPlusOne) (F79_mag) (F79_signum) l79 hh4) rfl rfl (pL14 rfl) (dc28 19 rfl) 141 142 144 136 ⟨rfl, rfl, rfl, rfl⟩ 1 e79 ?_
 rintro _ T80 L80 X80 ⟨u080, rfl, M80, K80, P080, P180, P280, P380, P480⟩
 have N80 := Fr.app N0 M80
 have l80_0 := (ntr Z0 (ntr E79.1 P080))
 show oG p e b T80 m 61 #[sJ x0, s2] [(.ref b79)] _
 have d81 := (nne (nlt A79.lt P080))
 have d82 := (Ne.symm d81)
 exact o_retA X80 j (dc28 20 rfl) rfl ⟨b79, u080, rfl, N80, (((Keep.refl h0 []).ext E79).trans K80 (allS (Or.inr z79) all0)), z79, (ntr E79.1 P080), d82, (A79.keep K80), P280, P380, P480, P180⟩
def H28 (x0 : Int64) : Bool := (H27 x0) && true
theorem own_pn27 : plainFor (⟨"java/math/BigDecimal", "inflated", "()Ljava/math/BigInteger;"⟩ : MethodName) = true := plainFor_of_name (by first | (simp [plainName, overriddenIn]; done) | decide +kernel)
theorem own_pd15 : parseMethodDescriptor "(J)Ljava/math/BigInteger;" = some ⟨[.long], some (.object "java/math/BigInteger")⟩ := by decide +kernel
def pL15 {L : List Value} := @lenOf _ _ _ own_pd15 L
abbrev mM27 (l : Launch) := own_Met l (⟨"java/math/BigDecimal", "inflated", "()Ljava/math/BigInteger;"⟩ : MethodName) jdk_17_method_99_code 1 (some (.object "java/math/BigInteger"))
theorem ct28 (a1 : Addr) (x0 : Int64) (O_0 : Old Z n0 h0) (k : own_K Z a0 g) (E_0 : Ee1 Z h0 a1) (F0intCompact : Ff2 Z h0 a1 (.long x0)) (F0intVal : Ff6 Z h0 a1 .null) (hH : H28 x0 = true) :
 mM27 l ws (oR 4 2 8 53) #[(.ref a1)] Z h0 fun v h L => ∃ (u085 : Addr) (u185 : Addr), v = some (.ref u085) ∧ Fr n0 L ∧ Keep h0 h [] ∧ h0.size ≤ u085 ∧ h0.size ≤ u185 ∧ u185 ≠ u085 ∧ Ee0 Z h u085 ∧ Ff8 Z h u085 (.int 0) ∧ Ff1 Z h u085 (.ref u185) ∧ Ff0 Z h u085 (.int 1) ∧ own_Ar Z h u185 .int [(.int (D26_0 x0)), (.int (x0.toInt32))] := by
 refine o_body own_pn27 k.1 (ef8 _) ?_
 intro p e s m b _ c T0 X0 j e0
 have N0 := Fr.nil n0
 have Z0 := own_Z0 O_0
 obtain ⟨hh0, q0⟩ := own_and hH
 refine o_aloadN X0 j (dc27 0 rfl) rfl rfl ?_
 refine o_getF X0 j (dc27 1 rfl) 93 rfl e0 F0intVal fun T83 X83 e83 => ?_
 refine o_ifnonnullNo X83 j (dc27 2 rfl) ?_
 refine o_aloadN X83 j (dc27 3 rfl) rfl rfl ?_
 refine o_getF X83 j (dc27 4 rfl) 49 rfl e83 F0intCompact fun T84 X84 e84 => ?_
 refine o_callS X84 j (ct27 x0 O_0 k hh0) rfl rfl (pL15 rfl) (dc27 5 rfl) 134 135 136 137 ⟨rfl, rfl, rfl, rfl⟩ 0 e84 ?_
 rintro _ T85 L85 X85 ⟨u085, u185, rfl, M85, K85, P085, P185, P285, P385, P485, P585, P685, P785⟩
 have N85 := Fr.app N0 M85
 have l85_0 := (ntr Z0 P085)
 have l85_1 := (ntr Z0 P185)
 show oG p e b T85 m 14 #[sR a1] [(.ref u085)] _
 exact o_retA X85 j (dc27 6 rfl) rfl ⟨u085, u185, rfl, N85, ((Keep.refl h0 []).trans K85 all0), P085, P185, P285, P385, P485, P585, P685, P785⟩
def H29 (x0 : Int64) : Bool := (H28 x0) && true
theorem own_pn25 : plainFor (⟨"java/math/BigDecimal", "toBigIntegerExact", "()Ljava/math/BigInteger;"⟩ : MethodName) = true := plainFor_of_name (by first | (simp [plainName, overriddenIn]; done) | decide +kernel)
theorem own_pd16 : parseMethodDescriptor "(II)Ljava/math/BigDecimal;" = some ⟨[.int, .int], some (.object "java/math/BigDecimal")⟩ := by decide +kernel
def pL16 {L : List Value} := @lenOf _ _ _ own_pd16 L
theorem own_pd17 : parseMethodDescriptor "()Ljava/math/BigInteger;" = some ⟨[], some (.object "java/math/BigInteger")⟩ := by decide +kernel
def pL17 {L : List Value} := @lenOf _ _ _ own_pd17 L
abbrev mM25 (l : Launch) := own_Met l (⟨"java/math/BigDecimal", "toBigIntegerExact", "()Ljava/math/BigInteger;"⟩ : MethodName) jdk_17_method_81_code 1 (some (.object "java/math/BigInteger"))
theorem ct29 (a1 : Addr) (x0 : Int64) (O_0 : Old Z n0 h0) (k : own_K Z a0 g) (E_0 : Ee1 Z h0 a1) (F0intCompact : Ff2 Z h0 a1 (.long x0)) (F0intVal : Ff6 Z h0 a1 .null) (F0scale : Ff3 Z h0 a1 (.int 0)) (hH : H29 x0 = true) :
 mM25 l ws (oR 5 2 8 65) #[(.ref a1)] Z h0 fun v h L => ∃ (u087 : Addr) (u187 : Addr), v = some (.ref u087) ∧ Fr n0 L ∧ Keep h0 h [] ∧ h0.size ≤ u087 ∧ h0.size ≤ u187 ∧ u187 ≠ u087 ∧ Ee0 Z h u087 ∧ Ff8 Z h u087 (.int 0) ∧ Ff1 Z h u087 (.ref u187) ∧ Ff0 Z h u087 (.int 1) ∧ own_Ar Z h u187 .int [(.int (D26_0 x0)), (.int (x0.toInt32))] := by
 refine o_body own_pn25 k.1 (ef8 _) ?_
 intro p e s m b _ c T0 X0 j e0
 have N0 := Fr.nil n0
 have Z0 := own_Z0 O_0
 obtain ⟨hh0, q0⟩ := own_and hH
 refine o_aloadN X0 j (dc25 0 rfl) rfl rfl ?_
 refine o_iconstL X0 j (dc25 1 rfl) 0 ?_
 refine o_bipushL X0 j (dc25 2 rfl) 7 ?_
 refine o_callV X0 j (ct23 a1 O_0 k E_0 (F0scale)) rfl rfl (pL16 rfl) (dc25 3 rfl) 124 125 127 126 128 34 ⟨rfl, rfl, rfl, rfl, rfl, rfl⟩ E_0 0 e0 ?_
 rintro _ T86 L86 X86 ⟨rfl, M86, e86⟩
 have N86 := Fr.app N0 M86
 show oG p e b T86 m 7 #[sR a1] [(.ref a1)] _
 refine o_callPv X86 j (ct28 a1 x0 O_0 k E_0 (F0intCompact) (F0intVal) hh0) rfl rfl (pL17 rfl) (dc25 4 rfl) 129 131 132 130 133 34 ⟨rfl, rfl, rfl, rfl, rfl, rfl⟩ E_0 0 e86 ?_
 rintro _ T87 L87 X87 ⟨u087, u187, rfl, M87, K87, P087, P187, P287, P387, P487, P587, P687, P787⟩
 have N87 := Fr.app N86 M87
 have l87_0 := (ntr Z0 P087)
 have l87_1 := (ntr Z0 P187)
 show oG p e b T87 m 10 #[sR a1] [(.ref u087)] _
 exact o_retA X87 j (dc25 5 rfl) rfl ⟨u087, u187, rfl, N87, ((Keep.refl h0 []).trans K87 all0), P087, P187, P287, P387, P487, P587, P687, P787⟩
theorem own_pn32 : plainFor (⟨"java/math/MutableBigInteger", "<init>", "()V"⟩ : MethodName) = true := plainFor_of_name (by first | (simp [plainName, overriddenIn]; done) | decide +kernel)
abbrev mM32 (l : Launch) := own_Met l (⟨"java/math/MutableBigInteger", "<init>", "()V"⟩ : MethodName) jdk_2101_method_1_code 1 none
def sn16 (k : own_K Z a0 g) := slot_ne (Or.inl (ot k 175 rfl)) (Or.inl (ot k 173 rfl)) (by decide) (t := (.array .int)) (t' := .int) (by decide) (by decide)
def sn17 (k : own_K Z a0 g) := slot_ne (Or.inl (ot k 177 rfl)) (Or.inl (ot k 173 rfl)) (by decide) (t := .int) (t' := .int) (by decide) (by decide)
def sn18 (k : own_K Z a0 g) := slot_ne (Or.inl (ot k 177 rfl)) (Or.inl (ot k 175 rfl)) (by decide) (t := .int) (t' := (.array .int)) (by decide) (by decide)
def sn19 (k : own_K Z a0 g) := slot_ne (Or.inl (ot k 173 rfl)) (Or.inl (ot k 175 rfl)) (by decide) (t := .int) (t' := (.array .int)) (by decide) (by decide)
def sn20 (k : own_K Z a0 g) := slot_ne (Or.inl (ot k 173 rfl)) (Or.inl (ot k 177 rfl)) (by decide) (t := .int) (t' := .int) (by decide) (by decide)
def sn21 (k : own_K Z a0 g) := slot_ne (Or.inl (ot k 175 rfl)) (Or.inl (ot k 177 rfl)) (by decide) (t := (.array .int)) (t' := .int) (by decide) (by decide)
theorem ct31 (a1 : Addr) (O_0 : Old Z n0 h0) (k : own_K Z a0 g) (E_0 : Ee3 Z h0 a1) (F0intLen : Ff9 Z h0 a1 (.int 0)) (F0offset : Ff10 Z h0 a1 (.int 0)) (F0value : Ff11 Z h0 a1 .null) (G_0 : n0 ≤ a1) :
 mM32 l ws (oR 1 1 1 12) #[(.ref a1)] Z h0 fun v h L => ∃ (b90 : Addr), v = none ∧ Fr n0 L ∧ Keep h0 h [a1] ∧ h0.size ≤ b90 ∧ own_Ar Z h b90 .int [(.int 0)] ∧ Ff9 Z h a1 (.int 0) ∧ Ff10 Z h a1 (.int 0) ∧ Ff11 Z h a1 (.ref b90) := by
 refine o_body own_pn32 k.1 (ef8 _) ?_
 intro p e s m b _ c T0 X0 j e0
 have N0 := Fr.nil n0
 have Z0 := own_Z0 O_0
 refine o_aloadN X0 j (dc32 0 rfl) rfl rfl ?_
 refine o_initO X0 j (dc32 1 rfl) 171 89 90 ⟨rfl, rfl, rfl⟩ e0 0 fun T88 X88 e88 => ?_
 show oG p e b T88 m 4 #[sR a1] [] _
 refine o_aloadN X88 j (dc32 2 rfl) rfl rfl ?_
 refine o_iconstL X88 j (dc32 3 rfl) 0 ?_
 refine o_put X88 j (dc32 4 rfl) 172 173 165 ⟨rfl, rfl, rfl⟩ .int e88 F0offset E_0 fun T89 h89 X89 e89 W89 => ?_
 have F89 := (F0offset).same W89
 have N89 := Fr.snoc X89 N0 G_0
 refine o_aloadN X89 j (dc32 5 rfl) rfl rfl ?_
 refine o_iconstL X89 j (dc32 6 rfl) 1 ?_
 refine o_newA X89 j (dc32 7 rfl) 149 rfl e89 1 [(.int 0)] fun T90 h90 b90 X90 e90 g90 E90 A90 => ?_
 have z90 := ntr (nqs (Wr.size W89)) (nqs g90)
 have l90 := (ntr Z0 z90)
 have y92 := ((F0value.other W89 (Or.inr (sn16 k))).ext E90)
 refine o_put X90 j (dc32 8 rfl) 174 175 165 ⟨rfl, rfl, rfl⟩ (.array .int) e90 y92 ((E_0.wr W89).ext E90) fun T91 h91 X91 e91 W91 => ?_
 have F91 := y92.same W91
 have N91 := Fr.snoc X91 N89 G_0
 refine o_aloadN X91 j (dc32 9 rfl) rfl rfl ?_
 refine o_iconstL X91 j (dc32 10 rfl) 0 ?_
 have y94 := (((F0intLen.other W89 (Or.inr (sn17 k))).ext E90).other W91 (Or.inr (sn18 k)))
 refine o_put X91 j (dc32 11 rfl) 176 177 165 ⟨rfl, rfl, rfl⟩ .int e91 y94 (((E_0.wr W89).ext E90).wr W91) fun T93 h93 X93 e93 W93 => ?_
 have F93 := y94.same W93
 have N93 := Fr.snoc X93 N91 G_0
 have d95 := (nne (nlt (nlt E_0.lt (nqs (Wr.size W89))) (nqs g90)))
 have d96 := (Ne.symm d95)
 have y97 := (((F89.ext E90).other W91 (Or.inr (sn19 k))).other W93 (Or.inr (sn20 k)))
 have y98 := (F91.other W93 (Or.inr (sn21 k)))
 exact o_retV X93 j (dc32 12 rfl) e93 ⟨b90, rfl, N93, (((((Keep.refl h0 [a1]).wr W89 (mI 0 rfl)).ext E90).wr W91 (mI 0 rfl)).wr W93 (mI 0 rfl)), z90, ((A90.other W91 d96).other W93 d96), F93, y97, y98⟩
theorem own_pn33 : plainFor (⟨"java/math/MutableBigInteger", "<init>", "([I)V"⟩ : MethodName) = true := plainFor_of_name (by first | (simp [plainName, overriddenIn]; done) | decide +kernel)
abbrev mM33 (l : Launch) := own_Met l (⟨"java/math/MutableBigInteger", "<init>", "([I)V"⟩ : MethodName) jdk_2101_method_3_code 2 none
theorem ct32 (a1 a2 : Addr) (x0 x1 : Int32) (O_0 : Old Z n0 h0) (k : own_K Z a0 g) (E_0 : Ee3 Z h0 a1) (F0intLen : Ff9 Z h0 a1 (.int 0)) (F0offset : Ff10 Z h0 a1 (.int 0)) (F0value : Ff11 Z h0 a1 .null) (G_0 : n0 ≤ a1) (A_1 : own_Ar Z h0 a2 .int [(.int x0), (.int x1)]) (ne_0_1 : a1 ≠ a2) :
 mM33 l ws (oR 1 0 0 12) #[(.ref a1), (.ref a2)] Z h0 fun v h L => v = none ∧ Fr n0 L ∧ Keep h0 h [a1] ∧ Ff9 Z h a1 (.int 2) ∧ Ff10 Z h a1 (.int 0) ∧ Ff11 Z h a1 (.ref a2) := by
 refine o_body own_pn33 k.1 (ef12 _ _) ?_
 intro p e s m b _ c T0 X0 j e0
 have N0 := Fr.nil n0
 have Z0 := own_Z0 O_0
 refine o_aloadN X0 j (dc33 0 rfl) rfl rfl ?_
 refine o_initO X0 j (dc33 1 rfl) 171 89 90 ⟨rfl, rfl, rfl⟩ e0 0 fun T99 X99 e99 => ?_
 show oG p e b T99 m 4 #[sR a1, sR a2] [] _
 refine o_aloadN X99 j (dc33 2 rfl) rfl rfl ?_
 refine o_iconstL X99 j (dc33 3 rfl) 0 ?_
 refine o_put X99 j (dc33 4 rfl) 172 173 165 ⟨rfl, rfl, rfl⟩ .int e99 F0offset E_0 fun T100 h100 X100 e100 W100 => ?_
 have F100 := (F0offset).same W100
 have N100 := Fr.snoc X100 N0 G_0
 refine o_aloadN X100 j (dc33 5 rfl) rfl rfl ?_
 refine o_aloadN X100 j (dc33 6 rfl) rfl rfl ?_
 have y102 := (F0value.other W100 (Or.inr (sn16 k)))
 refine o_put X100 j (dc33 7 rfl) 174 175 165 ⟨rfl, rfl, rfl⟩ (.array .int) e100 y102 (E_0.wr W100) fun T101 h101 X101 e101 W101 => ?_
 have F101 := y102.same W101
 have N101 := Fr.snoc X101 N100 G_0
 refine o_aloadN X101 j (dc33 8 rfl) rfl rfl ?_
 refine o_aloadN X101 j (dc33 9 rfl) rfl rfl ?_
 have y103 := ((A_1.other W100 (Ne.symm ne_0_1)).other W101 (Ne.symm ne_0_1))
 refine o_len X101 j (dc33 10 rfl) e101 y103 2 ?_
 have y105 := ((F0intLen.other W100 (Or.inr (sn17 k))).other W101 (Or.inr (sn18 k)))
 refine o_put X101 j (dc33 11 rfl) 176 177 165 ⟨rfl, rfl, rfl⟩ .int e101 y105 ((E_0.wr W100).wr W101) fun T104 h104 X104 e104 W104 => ?_
 have F104 := y105.same W104
 have N104 := Fr.snoc X104 N101 G_0
 have y106 := ((F100.other W101 (Or.inr (sn19 k))).other W104 (Or.inr (sn20 k)))
 have y107 := (F101.other W104 (Or.inr (sn21 k)))
 exact o_retV X104 j (dc33 12 rfl) e104 ⟨rfl, N104, ((((Keep.refl h0 [a1]).wr W100 (mI 0 rfl)).wr W101 (mI 0 rfl)).wr W104 (mI 0 rfl)), F104, y106, y107⟩
theorem ct33 (a1 a2 : Addr) (O_0 : Old Z n0 h0) (k : own_K Z a0 g) (E_0 : Ee3 Z h0 a1) (F0intLen : Ff9 Z h0 a1 (.int 0)) (F0offset : Ff10 Z h0 a1 (.int 0)) (F0value : Ff11 Z h0 a1 .null) (G_0 : n0 ≤ a1) (A_1 : own_Ar Z h0 a2 .int [(.int 1000000000)]) (ne_0_1 : a1 ≠ a2) :
 mM33 l ws (oR 1 0 0 12) #[(.ref a1), (.ref a2)] Z h0 fun v h L => v = none ∧ Fr n0 L ∧ Keep h0 h [a1] ∧ Ff9 Z h a1 (.int 1) ∧ Ff10 Z h a1 (.int 0) ∧ Ff11 Z h a1 (.ref a2) := by
 refine o_body own_pn33 k.1 (ef12 _ _) ?_
 intro p e s m b _ c T0 X0 j e0
 have N0 := Fr.nil n0
 have Z0 := own_Z0 O_0
 refine o_aloadN X0 j (dc33 0 rfl) rfl rfl ?_
 refine o_initO X0 j (dc33 1 rfl) 171 89 90 ⟨rfl, rfl, rfl⟩ e0 0 fun T108 X108 e108 => ?_
 show oG p e b T108 m 4 #[sR a1, sR a2] [] _
 refine o_aloadN X108 j (dc33 2 rfl) rfl rfl ?_
 refine o_iconstL X108 j (dc33 3 rfl) 0 ?_
 refine o_put X108 j (dc33 4 rfl) 172 173 165 ⟨rfl, rfl, rfl⟩ .int e108 F0offset E_0 fun T109 h109 X109 e109 W109 => ?_
 have F109 := (F0offset).same W109
 have N109 := Fr.snoc X109 N0 G_0
 refine o_aloadN X109 j (dc33 5 rfl) rfl rfl ?_
 refine o_aloadN X109 j (dc33 6 rfl) rfl rfl ?_
 have y111 := (F0value.other W109 (Or.inr (sn16 k)))
 refine o_put X109 j (dc33 7 rfl) 174 175 165 ⟨rfl, rfl, rfl⟩ (.array .int) e109 y111 (E_0.wr W109) fun T110 h110 X110 e110 W110 => ?_
 have F110 := y111.same W110
 have N110 := Fr.snoc X110 N109 G_0
 refine o_aloadN X110 j (dc33 8 rfl) rfl rfl ?_
 refine o_aloadN X110 j (dc33 9 rfl) rfl rfl ?_
 have y112 := ((A_1.other W109 (Ne.symm ne_0_1)).other W110 (Ne.symm ne_0_1))
 refine o_len X110 j (dc33 10 rfl) e110 y112 1 ?_
 have y114 := ((F0intLen.other W109 (Or.inr (sn17 k))).other W110 (Or.inr (sn18 k)))
 refine o_put X110 j (dc33 11 rfl) 176 177 165 ⟨rfl, rfl, rfl⟩ .int e110 y114 ((E_0.wr W109).wr W110) fun T113 h113 X113 e113 W113 => ?_
 have F113 := y114.same W113
 have N113 := Fr.snoc X113 N110 G_0
 have y115 := ((F109.other W110 (Or.inr (sn19 k))).other W113 (Or.inr (sn20 k)))
 have y116 := (F110.other W113 (Or.inr (sn21 k)))
 exact o_retV X113 j (dc33 12 rfl) e113 ⟨rfl, N113, ((((Keep.refl h0 [a1]).wr W109 (mI 0 rfl)).wr W110 (mI 0 rfl)).wr W113 (mI 0 rfl)), F113, y115, y116⟩
def H34 (x0 : Int32) : Bool := decide (¬ x0 < (1 : Int32)) && (decide ((1 : Int32) < x0) && true)
theorem own_pn36 : plainFor (⟨"java/math/MutableBigInteger", "compare", "(Ljava/math/MutableBigInteger;)I"⟩ : MethodName) = true := plainFor_of_name (by first | (simp [plainName, overriddenIn]; done) | decide +kernel)
theorem ef19 (b0 b1 : Addr) (m : MethodId) : entryFrame m #[.ref b0, .ref b1] 8 = mkF m 0 #[.val (.ref b0), .val (.ref b1), .unset, .unset, .unset, .unset, .unset, .unset] [] := by first | (simp [entryFrame, mkF, argsToLocals, Value.category]; done) | rfl
abbrev mM36 (l : Launch) := own_Met l (⟨"java/math/MutableBigInteger", "compare", "(Ljava/math/MutableBigInteger;)I"⟩ : MethodName) jdk_2101_method_15_code 8 (some .int)
theorem ct34 (a1 a2 : Addr) (x0 : Int32) (O_0 : Old Z n0 h0) (k : own_K Z a0 g) (E_0 : Ee3 Z h0 a1) (F0intLen : Ff9 Z h0 a1 (.int x0)) (E_1 : Ee3 Z h0 a2) (F1intLen : Ff9 Z h0 a2 (.int 1)) (hH : H34 x0 = true) :
 mM36 l ws (oR 0 0 0 0) #[(.ref a1), (.ref a2)] Z h0 fun v h L => v = some (.int 1) ∧ Fr n0 L ∧ h = h0 := by
 refine o_body own_pn36 k.1 (ef19 _ _) ?_
 intro p e s m b _ c T0 X0 j e0
 have N0 := Fr.nil n0
 have Z0 := own_Z0 O_0
 obtain ⟨hh0, q0⟩ := o_ad hH
 obtain ⟨hh1, q1⟩ := o_ad q0
 refine o_aloadN X0 j (dc36 0 rfl) rfl rfl ?_
 refine o_getF X0 j (dc36 1 rfl) 176 rfl e0 F1intLen fun T117 X117 e117 => ?_
 refine o_istoreN X117 j (dc36 2 rfl) (Ls' := #[sR a1, sR a2, sI 1, sU, sU, sU, sU, sU]) rfl ?_
 refine o_aloadN X117 j (dc36 3 rfl) rfl rfl ?_
 refine o_getF X117 j (dc36 4 rfl) 176 rfl e117 F0intLen fun T118 X118 e118 => ?_
 refine o_iloadN X118 j (dc36 5 rfl) rfl ?_
 refine o_icmpYes X118 j (dc36 6 rfl) 15 (flt hh0).2.1 ?_
 refine o_aloadN X118 j (dc36 7 rfl) rfl rfl ?_
 refine o_getF X118 j (dc36 8 rfl) 176 rfl e118 F0intLen fun T119 X119 e119 => ?_
 refine o_iloadN X119 j (dc36 9 rfl) rfl ?_
 refine o_icmpNo X119 j (dc36 10 rfl) (tlt hh1).2.2.2 ?_
 refine o_iconstL X119 j (dc36 11 rfl) 1 ?_
 exact o_retI X119 j (dc36 12 rfl) rfl ⟨rfl, N0, e119⟩
theorem own_pn37 : plainFor (⟨"java/math/MutableBigInteger", "clear", "()V"⟩ : MethodName) = true := plainFor_of_name (by first | (simp [plainName, overriddenIn]; done) | decide +kernel)
theorem ef20 (b0 : Addr) (m : MethodId) : entryFrame m #[.ref b0] 3 = mkF m 0 #[.val (.ref b0), .unset, .unset] [] := by first | (simp [entryFrame, mkF, argsToLocals, Value.category]; done) | rfl
abbrev mM37 (l : Launch) := own_Met l (⟨"java/math/MutableBigInteger", "clear", "()V"⟩ : MethodName) jdk_2101_method_13_code 3 none
theorem ct35 (a1 o1 : Addr) (O_0 : Old Z n0 h0) (k : own_K Z a0 g) (E_0 : Ee3 Z h0 a1) (F0intLen : Ff9 Z h0 a1 (.int 0)) (F0offset : Ff10 Z h0 a1 (.int 0)) (F0value : Ff11 Z h0 a1 (.ref o1)) (G_0 : n0 ≤ a1) (A_1 : own_Ar Z h0 o1 .int [(.int 0)]) (G_1 : n0 ≤ o1) (ne_0_1 : a1 ≠ o1) :
 mM37 l ws (oR 0 0 0 0) #[(.ref a1)] Z h0 fun v h L => v = none ∧ Fr n0 L ∧ Keep h0 h [a1, o1] ∧ Ff9 Z h a1 (.int 0) ∧ Ff10 Z h a1 (.int 0) ∧ Ff11 Z h a1 (.ref o1) ∧ own_Ar Z h o1 .int [(.int 0)] := by
 refine o_body own_pn37 k.1 (ef20 _) ?_
 intro p e s m b _ c T0 X0 j e0
 have N0 := Fr.nil n0
 have Z0 := own_Z0 O_0
 refine o_aloadN X0 j (dc37 0 rfl) rfl rfl ?_
 refine o_aloadN X0 j (dc37 1 rfl) rfl rfl ?_
 refine o_iconstL X0 j (dc37 2 rfl) 0 ?_
 refine o_dup_x1 X0 j (dc37 3 rfl) rfl rfl ?_
 refine o_put X0 j (dc37 4 rfl) 176 177 165 ⟨rfl, rfl, rfl⟩ .int e0 F0intLen E_0 fun T120 h120 X120 e120 W120 => ?_
 have F120 := (F0intLen).same W120
 have N120 := Fr.snoc X120 N0 G_0
 have y122 := (F0offset.other W120 (Or.inr (sn20 k)))
 refine o_put X120 j (dc37 5 rfl) 172 173 165 ⟨rfl, rfl, rfl⟩ .int e120 y122 (E_0.wr W120) fun T121 h121 X121 e121 W121 => ?_
 have F121 := y122.same W121
 have N121 := Fr.snoc X121 N120 G_0
 refine o_iconstL X121 j (dc37 6 rfl) 0 ?_
 refine o_istoreN X121 j (dc37 7 rfl) (Ls' := #[sR a1, sI 0, sU]) rfl ?_
 refine o_aloadN X121 j (dc37 8 rfl) rfl rfl ?_
 have y123 := ((F0value.other W120 (Or.inr (sn21 k))).other W121 (Or.inr (sn16 k)))
 refine o_getF X121 j (dc37 9 rfl) 174 rfl e121 y123 fun T124 X124 e124 => ?_
 have y125 := ((A_1.other W120 (Ne.symm ne_0_1)).other W121 (Ne.symm ne_0_1))
 refine o_len X124 j (dc37 10 rfl) e124 y125 1 ?_
 refine o_istoreN X124 j (dc37 11 rfl) (Ls' := #[sR a1, sI 0, sI 1]) rfl ?_
 refine o_iloadN X124 j (dc37 12 rfl) rfl ?_
 refine o_iloadN X124 j (dc37 13 rfl) rfl ?_
 refine o_icmpNoD X124 j (dc37 14 rfl) ?_
 refine o_aloadN X124 j (dc37 15 rfl) rfl rfl ?_
 refine o_getF X124 j (dc37 16 rfl) 174 rfl e124 y123 fun T126 X126 e126 => ?_
 refine o_iloadN X126 j (dc37 17 rfl) rfl ?_
 refine o_iconstL X126 j (dc37 18 rfl) 0 ?_
 refine o_iastore X126 j (dc37 19 rfl) e126 y125 (.int 0) fun T127 h127 X127 e127 W127 A127 => ?_
 have B127 : own_Ar Z h127 o1 .int [(.int 0)] := A127
 have N127 := Fr.snoc X127 N121 G_1
 refine o_iinc X127 j (dc37 20 rfl) rfl (z := 1) (by decide) (Ls' := #[sR a1, sI 1, sI 1]) rfl ?_
 refine o_goto X127 j (dc37 21 rfl) 18 ?_
 refine o_iloadN X127 j (dc37 12 rfl) rfl ?_
 refine o_iloadN X127 j (dc37 13 rfl) rfl ?_
 refine o_icmpYesD X127 j (dc37 14 rfl) 36 ?_
 have y128 := ((F120.other W121 (Or.inr (sn17 k))).other W127 (Or.inl ne_0_1))
 exact o_retV X127 j (dc37 22 rfl) e127 ⟨rfl, N127, ((((Keep.refl h0 [a1, o1]).wr W120 (mI 0 rfl)).wr W121 (mI 0 rfl)).wr W127 (mI 1 rfl)), y128, (F121.other W127 (Or.inl ne_0_1)), (y123.other W127 (Or.inl ne_0_1)), B127⟩
def H37 (x0 : Int32) : Bool := decide (¬ x0 = (0 : Int32)) && true
theorem own_pn40 : plainFor (⟨"java/math/MutableBigInteger", "normalize", "()V"⟩ : MethodName) = true := plainFor_of_name (by first | (simp [plainName, overriddenIn]; done) | decide +kernel)
theorem ef21 (b0 : Addr) (m : MethodId) : entryFrame m #[.ref b0] 4 = mkF m 0 #[.val (.ref b0), .unset, .unset, .unset] [] := by first | (simp [entryFrame, mkF, argsToLocals, Value.category]; done) | rfl
abbrev mM40 (l : Launch) := own_Met l (⟨"java/math/MutableBigInteger", "normalize", "()V"⟩ : MethodName) jdk_2101_method_21_code 4 none
theorem ct37 (a1 o1 : Addr) (x0 : Int32) (O_0 : Old Z n0 h0) (k : own_K Z a0 g) (E_0 : Ee3 Z h0 a1) (F0intLen : Ff9 Z h0 a1 (.int 2)) (F0offset : Ff10 Z h0 a1 (.int 0)) (F0value : Ff11 Z h0 a1 (.ref o1)) (G_0 : n0 ≤ a1) (A_1 : own_Ar Z h0 o1 .int [(.int 0), (.int x0)]) (hH : H37 x0 = true) :
 mM40 l ws (oR 0 0 0 0) #[(.ref a1)] Z h0 fun v h L => v = none ∧ Fr n0 L ∧ Keep h0 h [a1] ∧ Ff9 Z h a1 (.int 1) ∧ Ff10 Z h a1 (.int 1) ∧ Ff11 Z h a1 (.ref o1) := by
 refine o_body own_pn40 k.1 (ef21 _) ?_
 intro p e s m b _ c T0 X0 j e0
 have N0 := Fr.nil n0
 have Z0 := own_Z0 O_0
 obtain ⟨hh0, q0⟩ := o_ad hH
 refine o_aloadN X0 j (dc40 0 rfl) rfl rfl ?_
 refine o_getF X0 j (dc40 1 rfl) 176 rfl e0 F0intLen fun T129 X129 e129 => ?_
 refine o_ifYesD X129 j (dc40 2 rfl) 13 ?_
 refine o_aloadN X129 j (dc40 3 rfl) rfl rfl ?_
 refine o_getF X129 j (dc40 4 rfl) 172 rfl e129 F0offset fun T130 X130 e130 => ?_
 refine o_istoreN X130 j (dc40 5 rfl) (Ls' := #[sR a1, sI 0, sU, sU]) rfl ?_
 refine o_aloadN X130 j (dc40 6 rfl) rfl rfl ?_
 refine o_getF X130 j (dc40 7 rfl) 174 rfl e130 F0value fun T131 X131 e131 => ?_
 refine o_iloadN X131 j (dc40 8 rfl) rfl ?_
 refine o_iaload X131 j (dc40 9 rfl) e131 A_1 (.int 0) ?_
 refine o_ifYesD X131 j (dc40 10 rfl) 28 ?_
 refine o_iloadN X131 j (dc40 12 rfl) rfl ?_
 refine o_aloadN X131 j (dc40 13 rfl) rfl rfl ?_
 refine o_getF X131 j (dc40 14 rfl) 176 rfl e131 F0intLen fun T132 X132 e132 => ?_
 refine o_iaddL X132 j (dc40 15 rfl) 2 ?_
 refine o_istoreN X132 j (dc40 16 rfl) (Ls' := #[sR a1, sI 0, sI 2, sU]) rfl ?_
 refine o_iinc X132 j (dc40 17 rfl) rfl (z := 1) (by decide) (Ls' := #[sR a1, sI 1, sI 2, sU]) rfl ?_
 refine o_iloadN X132 j (dc40 18 rfl) rfl ?_
 refine o_iloadN X132 j (dc40 19 rfl) rfl ?_
 refine o_icmpNoD X132 j (dc40 20 rfl) ?_
 refine o_aloadN X132 j (dc40 21 rfl) rfl rfl ?_
 refine o_getF X132 j (dc40 22 rfl) 174 rfl e132 F0value fun T133 X133 e133 => ?_
 refine o_iloadN X133 j (dc40 23 rfl) rfl ?_
 refine o_iaload X133 j (dc40 24 rfl) e133 A_1 (.int x0) ?_
 refine o_ifNo X133 j (dc40 25 rfl) (feq hh0).1 ?_
 refine o_iloadN X133 j (dc40 26 rfl) rfl ?_
 refine o_aloadN X133 j (dc40 27 rfl) rfl rfl ?_
 refine o_getF X133 j (dc40 28 rfl) 172 rfl e133 F0offset fun T134 X134 e134 => ?_
 refine o_isubL X134 j (dc40 29 rfl) 1 ?_
 refine o_istoreN X134 j (dc40 30 rfl) (Ls' := #[sR a1, sI 1, sI 2, sI 1]) rfl ?_
 refine o_aloadN X134 j (dc40 31 rfl) rfl rfl ?_
 refine o_dup X134 j (dc40 32 rfl) rfl ?_
 refine o_getF X134 j (dc40 33 rfl) 176 rfl e134 F0intLen fun T135 X135 e135 => ?_
 refine o_iloadN X135 j (dc40 34 rfl) rfl ?_
 refine o_isubL X135 j (dc40 35 rfl) 1 ?_
 refine o_put X135 j (dc40 36 rfl) 176 177 165 ⟨rfl, rfl, rfl⟩ .int e135 F0intLen E_0 fun T136 h136 X136 e136 W136 => ?_
 have F136 := (F0intLen).same W136
 have N136 := Fr.snoc X136 N0 G_0
 refine o_aloadN X136 j (dc40 37 rfl) rfl rfl ?_
 refine o_aloadN X136 j (dc40 38 rfl) rfl rfl ?_
 refine o_getF X136 j (dc40 39 rfl) 176 rfl e136 F136 fun T137 X137 e137 => ?_
 refine o_ifYesD X137 j (dc40 40 rfl) 81 ?_
 refine o_aloadN X137 j (dc40 41 rfl) rfl rfl ?_
 have y138 := (F0offset.other W136 (Or.inr (sn20 k)))
 refine o_getF X137 j (dc40 42 rfl) 172 rfl e137 y138 fun T139 X139 e139 => ?_
 refine o_iloadN X139 j (dc40 43 rfl) rfl ?_
 refine o_iaddL X139 j (dc40 44 rfl) 1 ?_
 refine o_put X139 j (dc40 45 rfl) 172 173 165 ⟨rfl, rfl, rfl⟩ .int e139 y138 (E_0.wr W136) fun T140 h140 X140 e140 W140 => ?_
 have F140 := y138.same W140
 have N140 := Fr.snoc X140 N136 G_0
 have y141 := (F136.other W140 (Or.inr (sn17 k)))
 have y142 := ((F0value.other W136 (Or.inr (sn21 k))).other W140 (Or.inr (sn16 k)))
 exact o_retV X140 j (dc40 46 rfl) e140 ⟨rfl, N140, (((Keep.refl h0 [a1]).wr W136 (mI 0 rfl)).wr W140 (mI 0 rfl)), y141, F140, y142⟩
def D38_0 (x0 : Int32) (x1 : Int32) : Int64 := ((((x0.toInt64) &&& (4294967295 : Int64)) <<< ((32 : Int32) &&& 0x3f).toInt64) ||| ((x1.toInt64) &&& (4294967295 : Int64)))
def D38_1 (x0 : Int32) (x1 : Int32) : Int32 := (((D38_0 x0 x1) / (1000000000 : Int64)).toInt32)
def D38_2 (x0 : Int32) (x1 : Int32) : Int32 := (((D38_0 x0 x1) - (((D38_1 x0 x1).toInt64) * (1000000000 : Int64))).toInt32)
def D38_3 (x0 : Int32) (x1 : Int32) : Int64 := (((D38_2 x0 x1).toInt64) &&& (4294967295 : Int64))
def H38 (x0 : Int32) (x1 : Int32) : Bool := decide (((x0.toInt64) &&& (4294967295 : Int64)) < (1000000000 : Int64)) && (decide (¬ (D38_0 x0 x1) < (0 : Int64)) && ((H37 (D38_1 x0 x1)) && (decide ((0 : Int32) < (own_nlz (1000000000 : Int32))) && true)))
theorem own_pn38 : plainFor (⟨"java/math/MutableBigInteger", "divideOneWord", "(ILjava/math/MutableBigInteger;)I"⟩ : MethodName) = true := plainFor_of_name (by first | (simp [plainName, overriddenIn]; done) | decide +kernel)
theorem own_pd18 : parseMethodDescriptor "(I)I" = some ⟨[.int], some .int⟩ := by decide +kernel
def pL18 {L : List Value} := @lenOf _ _ _ own_pd18 L
def R38_0 (x0 : Int32) (x1 : Int32) : Int32 := ((D38_2 x0 x1) - ((D38_2 x0 x1) / (1000000000 : Int32)) * (1000000000 : Int32))
theorem ef22 (b0 : Addr) (b1 : Int32) (b2 : Addr) (m : MethodId) : entryFrame m #[.ref b0, .int b1, .ref b2] 15 = mkF m 0 #[.val (.ref b0), .val (.int b1), .val (.ref b2), .unset, .unset, .unset, .unset, .unset, .unset, .unset, .unset, .unset, .unset, .unset, .unset] [] := by first | (simp [entryFrame, mkF, argsToLocals, Value.category]; done) | rfl
abbrev mM38 (l : Launch) := own_Met l (⟨"java/math/MutableBigInteger", "divideOneWord", "(ILjava/math/MutableBigInteger;)I"⟩ : MethodName) jdk_2101_method_53_code 15 (some .int)
theorem ct38 (a1 a3 o2 o3 : Addr) (x0 x1 : Int32) (O_0 : Old Z n0 h0) (k : own_K Z a0 g) (E_0 : Ee3 Z h0 a1) (F0intLen : Ff9 Z h0 a1 (.int 2)) (F0offset : Ff10 Z h0 a1 (.int 0)) (F0value : Ff11 Z h0 a1 (.ref o2)) (E_1 : Ee3 Z h0 a3) (F1intLen : Ff9 Z h0 a3 (.int 0)) (F1offset : Ff10 Z h0 a3 (.int 0)) (F1value : Ff11 Z h0 a3 (.ref o3)) (G_1 : n0 ≤ a3) (A_2 : own_Ar Z h0 o2 .int [(.int x0), (.int x1)]) (A_3 : own_Ar Z h0 o3 .int [(.int 0)]) (ne_0_1 : a1 ≠ a3) (ne_1_2 : a3 ≠ o2) (hH : H38 x0 x1 = true) :
 mM38 l ws (oR 1 1 2 15) #[(.ref a1), (.int 1000000000), (.ref a3)] Z h0 fun v h L => ∃ (b147 : Addr), v = some (.int (R38_0 x0 x1)) ∧ Fr n0 L ∧ Keep h0 h [a3] ∧ h0.size ≤ b147 ∧ own_Ar Z h b147 .int [(.int 0), (.int (D38_1 x0 x1))] ∧ Ff9 Z h a3 (.int 1) ∧ Ff10 Z h a3 (.int 1) ∧ Ff11 Z h a3 (.ref b147) := by
 refine o_body own_pn38 k.1 (ef22 _ _ _) ?_
 intro p e s m b _ c T0 X0 j e0
 have N0 := Fr.nil n0
 have Z0 := own_Z0 O_0
 obtain ⟨hh0, q0⟩ := o_ad hH
 obtain ⟨hh1, q1⟩ := o_ad q0
 obtain ⟨hh2, q2⟩ := own_and q1
 obtain ⟨hh3, q3⟩ := o_ad q2
 refine o_iloadN X0 j (dc38 0 rfl) rfl ?_
 refine o_i2lL X0 j (dc38 1 rfl) 1000000000 ?_
 refine o_ldc2 X0 j (dc38 2 rfl) 206 rfl ?_
 refine o_landL X0 j (dc38 3 rfl) 1000000000 ?_
 refine o_lstoreN X0 j (dc38 4 rfl) (Ls' := #[sR a1, sI 1000000000, sR a3, sJ 1000000000, s2, sU, sU, sU, sU, sU, sU, sU, sU, sU, sU]) rfl ?_
 refine o_aloadN X0 j (dc38 5 rfl) rfl rfl ?_
 refine o_getF X0 j (dc38 6 rfl) 176 rfl e0 F0intLen fun T143 X143 e143 => ?_
 refine o_iconstL X143 j (dc38 7 rfl) 1 ?_
 refine o_icmpYesD X143 j (dc38 8 rfl) 79 ?_
 refine o_aloadN X143 j (dc38 9 rfl) rfl rfl ?_
 refine o_getF X143 j (dc38 10 rfl) 174 rfl e143 F1value fun T144 X144 e144 => ?_
 refine o_len X144 j (dc38 11 rfl) e144 A_3 1 ?_
 refine o_aloadN X144 j (dc38 12 rfl) rfl rfl ?_
 refine o_getF X144 j (dc38 13 rfl) 176 rfl e144 F0intLen fun T145 X145 e145 => ?_
 refine o_icmpNoD X145 j (dc38 14 rfl) ?_
 refine o_aloadN X145 j (dc38 15 rfl) rfl rfl ?_
 refine o_aloadN X145 j (dc38 16 rfl) rfl rfl ?_
 refine o_getF X145 j (dc38 17 rfl) 176 rfl e145 F0intLen fun T146 X146 e146 => ?_
 refine o_newA X146 j (dc38 18 rfl) 149 rfl e146 2 [(.int 0), (.int 0)] fun T147 h147 b147 X147 e147 g147 E147 A147 => ?_
 have z147 := ntr (Nat.le_refl _) (nqs g147)
 have l147 := (ntr Z0 z147)
 refine o_put X147 j (dc38 19 rfl) 174 175 165 ⟨rfl, rfl, rfl⟩ (.array .int) e147 (F1value.ext E147) (E_1.ext E147) fun T148 h148 X148 e148 W148 => ?_
 have F148 := ((F1value.ext E147)).same W148
 have N148 := Fr.snoc X148 N0 G_1
 refine o_aloadN X148 j (dc38 20 rfl) rfl rfl ?_
 refine o_iconstL X148 j (dc38 21 rfl) 0 ?_
 have y150 := ((F1offset.ext E147).other W148 (Or.inr (sn19 k)))
 refine o_put X148 j (dc38 22 rfl) 172 173 165 ⟨rfl, rfl, rfl⟩ .int e148 y150 ((E_1.ext E147).wr W148) fun T149 h149 X149 e149 W149 => ?_
 have F149 := y150.same W149
 have N149 := Fr.snoc X149 N148 G_1
 refine o_aloadN X149 j (dc38 23 rfl) rfl rfl ?_
 refine o_aloadN X149 j (dc38 24 rfl) rfl rfl ?_
 have y151 := (((F0intLen.ext E147).other W148 (Or.inl ne_0_1)).other W149 (Or.inl ne_0_1))
 refine o_getF X149 j (dc38 25 rfl) 176 rfl e149 y151 fun T152 X152 e152 => ?_
 have y154 := (((F1intLen.ext E147).other W148 (Or.inr (sn18 k))).other W149 (Or.inr (sn17 k)))
 refine o_put X152 j (dc38 26 rfl) 176 177 165 ⟨rfl, rfl, rfl⟩ .int e152 y154 (((E_1.ext E147).wr W148).wr W149) fun T153 h153 X153 e153 W153 => ?_
 have F153 := y154.same W153
 have N153 := Fr.snoc X153 N149 G_1
 refine o_iloadN X153 j (dc38 27 rfl) rfl ?_
 have y155 := ((((O_0.ext E147).wr W148 G_1).wr W149 G_1).wr W153 G_1)
 refine o_callS X153 j (rm_nlz (n0 := n0) k.1 (1000000000 : Int32)) rfl rfl (pL18 rfl) (dc38 28 rfl) 207 208 209 210 ⟨rfl, rfl, rfl, rfl⟩ 0 e153 ?_
 rintro _ T156 L156 X156 ⟨rfl, M156, e156⟩
 have N156 := Fr.app N153 M156
 show oG p e b T156 m 118 #[sR a1, sI 1000000000, sR a3, sJ 1000000000, s2, sU, sU, sU, sU, sU, sU, sU, sU, sU, sU] [(.int (own_nlz (1000000000 : Int32)))] _
 refine o_istore X156 j (dc38 29 rfl) (Ls' := #[sR a1, sI 1000000000, sR a3, sJ 1000000000, s2, sI (own_nlz (1000000000 : Int32)), sU, sU, sU, sU, sU, sU, sU, sU, sU]) rfl ?_
 refine o_aloadN X156 j (dc38 30 rfl) rfl rfl ?_
 have y157 := ((((F0value.ext E147).other W148 (Or.inl ne_0_1)).other W149 (Or.inl ne_0_1)).other W153 (Or.inl ne_0_1))
 refine o_getF X156 j (dc38 31 rfl) 174 rfl e156 y157 fun T158 X158 e158 => ?_
 refine o_aloadN X158 j (dc38 32 rfl) rfl rfl ?_
 have y159 := ((((F0offset.ext E147).other W148 (Or.inl ne_0_1)).other W149 (Or.inl ne_0_1)).other W153 (Or.inl ne_0_1))
 refine o_getF X158 j (dc38 33 rfl) 172 rfl e158 y159 fun T160 X160 e160 => ?_
 have y161 := ((((A_2.ext E147).other W148 (Ne.symm ne_1_2)).other W149 (Ne.symm ne_1_2)).other W153 (Ne.symm ne_1_2))
 refine o_iaload X160 j (dc38 34 rfl) e160 y161 (.int x0) ?_
 refine o_istore X160 j (dc38 35 rfl) (Ls' := #[sR a1, sI 1000000000, sR a3, sJ 1000000000, s2, sI (own_nlz (1000000000 : Int32)), sI x0, sU, sU, sU, sU, sU, sU, sU, sU]) rfl ?_
 refine o_iload X160 j (dc38 36 rfl) rfl ?_
 refine o_i2l X160 j (dc38 37 rfl) ?_
 refine o_ldc2 X160 j (dc38 38 rfl) 206 rfl ?_
 refine o_land X160 j (dc38 39 rfl) ?_
 refine o_lstore X160 j (dc38 40 rfl) (Ls' := #[sR a1, sI 1000000000, sR a3, sJ 1000000000, s2, sI (own_nlz (1000000000 : Int32)), sI x0, sJ ((x0.toInt64) &&& (4294967295 : Int64)), s2, sU, sU, sU, sU, sU, sU]) rfl ?_
 refine o_lload X160 j (dc38 41 rfl) rfl ?_
 refine o_lloadN X160 j (dc38 42 rfl) rfl ?_
 refine o_lcmp X160 j (dc38 43 rfl) ?_
 refine o_ifNo X160 j (dc38 44 rfl) (tlt ((lw_lt ((x0.toInt64) &&& (4294967295 : Int64)) (1000000000 : Int64)).mpr hh0)).2.1 ?_
 refine o_aloadN X160 j (dc38 45 rfl) rfl rfl ?_
 have y162 := ((F148.other W149 (Or.inr (sn16 k))).other W153 (Or.inr (sn21 k)))
 refine o_getF X160 j (dc38 46 rfl) 174 rfl e160 y162 fun T163 X163 e163 => ?_
 refine o_iconstL X163 j (dc38 47 rfl) 0 ?_
 refine o_iconstL X163 j (dc38 48 rfl) 0 ?_
 have d165 := (nne (nlt E_1.lt (nqs g147)))
 have d166 := (Ne.symm d165)
 have y167 := (((A147.other W148 d166).other W149 d166).other W153 d166)
 refine o_iastore X163 j (dc38 49 rfl) e163 y167 (.int 0) fun T164 h164 X164 e164 W164 A164 => ?_
 have B164 : own_Ar Z h164 b147 .int [(.int 0), (.int 0)] := A164
 have N164 := Fr.snoc X164 N156 l147
 refine o_goto X164 j (dc38 50 rfl) 192 ?_
 refine o_aloadN X164 j (dc38 75 rfl) rfl rfl ?_
 have d168 := (nne (nlt E_0.lt (nqs g147)))
 have y169 := ((y151.other W153 (Or.inl ne_0_1)).other W164 (Or.inl d168))
 refine o_getF X164 j (dc38 76 rfl) 176 rfl e164 y169 fun T170 X170 e170 => ?_
 refine o_istore X170 j (dc38 77 rfl) (Ls' := #[sR a1, sI 1000000000, sR a3, sJ 1000000000, s2, sI (own_nlz (1000000000 : Int32)), sI x0, sJ ((x0.toInt64) &&& (4294967295 : Int64)), s2, sI 2, sU, sU, sU, sU, sU]) rfl ?_
 refine o_iinc X170 j (dc38 78 rfl) rfl (z := 1) (by decide) (Ls' := #[sR a1, sI 1000000000, sR a3, sJ 1000000000, s2, sI (own_nlz (1000000000 : Int32)), sI x0, sJ ((x0.toInt64) &&& (4294967295 : Int64)), s2, sI 1, sU, sU, sU, sU, sU]) rfl ?_
 refine o_iload X170 j (dc38 79 rfl) rfl ?_
 refine o_ifNoD X170 j (dc38 80 rfl) ?_
 refine o_lload X170 j (dc38 81 rfl) rfl ?_
 refine o_bipushL X170 j (dc38 82 rfl) 32 ?_
 refine o_lshl X170 j (dc38 83 rfl) ?_
 refine o_aloadN X170 j (dc38 84 rfl) rfl rfl ?_
 refine o_getF X170 j (dc38 85 rfl) 174 rfl e170 (y157.other W164 (Or.inl d168)) fun T171 X171 e171 => ?_
 refine o_aloadN X171 j (dc38 86 rfl) rfl rfl ?_
 refine o_getF X171 j (dc38 87 rfl) 172 rfl e171 (y159.other W164 (Or.inl d168)) fun T172 X172 e172 => ?_
 refine o_aloadN X172 j (dc38 88 rfl) rfl rfl ?_
 refine o_getF X172 j (dc38 89 rfl) 176 rfl e172 y169 fun T173 X173 e173 => ?_
 refine o_iaddL X173 j (dc38 90 rfl) 2 ?_
 refine o_iload X173 j (dc38 91 rfl) rfl ?_
 refine o_isubL X173 j (dc38 92 rfl) 1 ?_
 have d174 := (nne (nlt A_2.lt (nqs g147)))
 refine o_iaload X173 j (dc38 93 rfl) e173 ((y161.other W164 d174)) (.int x1) ?_
 refine o_i2l X173 j (dc38 94 rfl) ?_
 refine o_ldc2 X173 j (dc38 95 rfl) 206 rfl ?_
 refine o_land X173 j (dc38 96 rfl) ?_
 refine o_lor X173 j (dc38 97 rfl) ?_
 refine o_lstore X173 j (dc38 98 rfl) (Ls' := #[sR a1, sI 1000000000, sR a3, sJ 1000000000, s2, sI (own_nlz (1000000000 : Int32)), sI x0, sJ ((x0.toInt64) &&& (4294967295 : Int64)), s2, sI 1, sJ (D38_0 x0 x1), s2, sU, sU, sU]) rfl ?_
 refine o_lload X173 j (dc38 99 rfl) rfl ?_
 refine o_lconstL X173 j (dc38 100 rfl) 0 ?_
 refine o_lcmp X173 j (dc38 101 rfl) ?_
 refine o_ifNo X173 j (dc38 102 rfl) (flt (fun q => hh1 ((lw_lt (D38_0 x0 x1) (0 : Int64)).mp q))).1 ?_
 refine o_lload X173 j (dc38 103 rfl) rfl ?_
 refine o_lloadN X173 j (dc38 104 rfl) rfl ?_
 refine o_ldiv X173 j (dc38 105 rfl) (by decide) ?_
 refine o_l2i X173 j (dc38 106 rfl) ?_
 refine o_istore X173 j (dc38 107 rfl) (Ls' := #[sR a1, sI 1000000000, sR a3, sJ 1000000000, s2, sI (own_nlz (1000000000 : Int32)), sI x0, sJ ((x0.toInt64) &&& (4294967295 : Int64)), s2, sI 1, sJ (D38_0 x0 x1), s2, sI (D38_1 x0 x1), sU, sU]) rfl ?_
 refine o_lload X173 j (dc38 108 rfl) rfl ?_
 refine o_iload X173 j (dc38 109 rfl) rfl ?_
 refine o_i2l X173 j (dc38 110 rfl) ?_
 refine o_lloadN X173 j (dc38 111 rfl) rfl ?_
 refine o_lmul X173 j (dc38 112 rfl) ?_
 refine o_lsub X173 j (dc38 113 rfl) ?_
 refine o_l2i X173 j (dc38 114 rfl) ?_
 refine o_istore X173 j (dc38 115 rfl) (Ls' := #[sR a1, sI 1000000000, sR a3, sJ 1000000000, s2, sI (own_nlz (1000000000 : Int32)), sI (D38_2 x0 x1), sJ ((x0.toInt64) &&& (4294967295 : Int64)), s2, sI 1, sJ (D38_0 x0 x1), s2, sI (D38_1 x0 x1), sU, sU]) rfl ?_
 refine o_goto X173 j (dc38 116 rfl) 289 ?_
 refine o_aloadN X173 j (dc38 117 rfl) rfl rfl ?_
 refine o_getF X173 j (dc38 118 rfl) 174 rfl e173 (y162.other W164 (Or.inl d165)) fun T175 X175 e175 => ?_
 refine o_aloadN X175 j (dc38 119 rfl) rfl rfl ?_
 refine o_getF X175 j (dc38 120 rfl) 176 rfl e175 y169 fun T176 X176 e176 => ?_
 refine o_iload X176 j (dc38 121 rfl) rfl ?_
 refine o_isubL X176 j (dc38 122 rfl) 1 ?_
 refine o_iload X176 j (dc38 123 rfl) rfl ?_
 refine o_iastore X176 j (dc38 124 rfl) e176 B164 (.int 0) fun T177 h177 X177 e177 W177 A177 => ?_
 have B177 : own_Ar Z h177 b147 .int [(.int 0), (.int (D38_1 x0 x1))] := A177
 have N177 := Fr.snoc X177 N164 l147
 refine o_iload X177 j (dc38 125 rfl) rfl ?_
 refine o_i2l X177 j (dc38 126 rfl) ?_
 refine o_ldc2 X177 j (dc38 127 rfl) 206 rfl ?_
 refine o_land X177 j (dc38 128 rfl) ?_
 refine o_lstore X177 j (dc38 129 rfl) (Ls' := #[sR a1, sI 1000000000, sR a3, sJ 1000000000, s2, sI (own_nlz (1000000000 : Int32)), sI (D38_2 x0 x1), sJ (D38_3 x0 x1), s2, sI 1, sJ (D38_0 x0 x1), s2, sI (D38_1 x0 x1), sU, sU]) rfl ?_
 refine o_goto X177 j (dc38 130 rfl) 198 ?_
 refine o_iinc X177 j (dc38 78 rfl) rfl (z := 0) (by decide) (Ls' := #[sR a1, sI 1000000000, sR a3, sJ 1000000000, s2, sI (own_nlz (1000000000 : Int32)), sI (D38_2 x0 x1), sJ (D38_3 x0 x1), s2, sI 0, sJ (D38_0 x0 x1), s2, sI (D38_1 x0 x1), sU, sU]) rfl ?_
 refine o_iload X177 j (dc38 79 rfl) rfl ?_
 refine o_ifYesD X177 j (dc38 80 rfl) 315 ?_
 refine o_aloadN X177 j (dc38 131 rfl) rfl rfl ?_
 have y178 := ((((((E_1.ext E147).wr W148).wr W149).wr W153).wr W164).wr W177)
 have y179 := ((F153.other W164 (Or.inl d165)).other W177 (Or.inl d165))
 have y180 := (((F149.other W153 (Or.inr (sn20 k))).other W164 (Or.inl d165)).other W177 (Or.inl d165))
 have y181 := ((y162.other W164 (Or.inl d165)).other W177 (Or.inl d165))
 refine o_callV X177 j (ct37 a3 b147 (D38_1 x0 x1) (((y155.wr W164 l147).wr W177 l147)) k y178 y179 y180 y181 G_1 B177 hh2) rfl rfl (pL3 rfl) (dc38 132 rfl) 212 213 215 214 216 166 ⟨rfl, rfl, rfl, rfl, rfl, rfl⟩ y178 0 e177 ?_
 rintro _ T182 L182 X182 ⟨rfl, M182, K182, P0182, P1182, P2182⟩
 have N182 := Fr.app N177 M182
 show oG p e b T182 m 319 #[sR a1, sI 1000000000, sR a3, sJ 1000000000, s2, sI (own_nlz (1000000000 : Int32)), sI (D38_2 x0 x1), sJ (D38_3 x0 x1), s2, sI 0, sJ (D38_0 x0 x1), s2, sI (D38_1 x0 x1), sU, sU] [] _
 refine o_iload X182 j (dc38 133 rfl) rfl ?_
 refine o_ifNo X182 j (dc38 134 rfl) (tlt hh3).2.2.2 ?_
 refine o_iload X182 j (dc38 135 rfl) rfl ?_
 refine o_iloadN X182 j (dc38 136 rfl) rfl ?_
 refine o_irem X182 j (dc38 137 rfl) (by decide) ?_
 exact o_retI X182 j (dc38 138 rfl) rfl ⟨b147, rfl, N182, ((((((((Keep.refl h0 [a3]).ext E147).wr W148 (mI 0 rfl)).wr W149 (mI 0 rfl)).wr W153 (mI 0 rfl)).wr W164 (Or.inr z147)).wr W177 (Or.inr z147)).trans K182 (allS (mI 0 rfl) all0)), z147, (B177.keep K182 (ninS d166 nin0)), P0182, P1182, P2182⟩
def H39 (x0 : Int32) (x1 : Int32) : Bool := (H38 x0 x1) && (decide ((R38_0 x0 x1) = (0 : Int32)) && true)
theorem own_pn35 : plainFor (⟨"java/math/MutableBigInteger", "divideKnuth", "(Ljava/math/MutableBigInteger;Ljava/math/MutableBigInteger;Z)Ljava/math/MutableBigInteger;"⟩ : MethodName) = true := plainFor_of_name (by first | (simp [plainName, overriddenIn]; done) | decide +kernel)
theorem own_pd19 : parseMethodDescriptor "(Ljava/math/MutableBigInteger;)I" = some ⟨[(.object "java/math/MutableBigInteger")], some .int⟩ := by decide +kernel
def pL19 {L : List Value} := @lenOf _ _ _ own_pd19 L
theorem own_pd20 : parseMethodDescriptor "(ILjava/math/MutableBigInteger;)I" = some ⟨[.int, (.object "java/math/MutableBigInteger")], some .int⟩ := by decide +kernel
def pL20 {L : List Value} := @lenOf _ _ _ own_pd20 L
theorem ef23 (b0 b1 b2 : Addr) (b3 : Int32) (m : MethodId) : entryFrame m #[.ref b0, .ref b1, .ref b2, .int b3] 8 = mkF m 0 #[.val (.ref b0), .val (.ref b1), .val (.ref b2), .val (.int b3), .unset, .unset, .unset, .unset] [] := by first | (simp [entryFrame, mkF, argsToLocals, Value.category]; done) | rfl
abbrev mM35 (l : Launch) := own_Met l (⟨"java/math/MutableBigInteger", "divideKnuth", "(Ljava/math/MutableBigInteger;Ljava/math/MutableBigInteger;Z)Ljava/math/MutableBigInteger;"⟩ : MethodName) jdk_2101_method_57_code 8 (some (.object "java/math/MutableBigInteger"))
theorem ct39 (a1 a2 a3 o3 o4 o5 : Addr) (x0 x1 : Int32) (O_0 : Old Z n0 h0) (k : own_K Z a0 g) (E_0 : Ee3 Z h0 a1) (F0intLen : Ff9 Z h0 a1 (.int 2)) (F0offset : Ff10 Z h0 a1 (.int 0)) (F0value : Ff11 Z h0 a1 (.ref o3)) (E_1 : Ee3 Z h0 a2) (F1intLen : Ff9 Z h0 a2 (.int 1)) (F1offset : Ff10 Z h0 a2 (.int 0)) (F1value : Ff11 Z h0 a2 (.ref o4)) (E_2 : Ee3 Z h0 a3) (F2intLen : Ff9 Z h0 a3 (.int 0)) (F2offset : Ff10 Z h0 a3 (.int 0)) (F2value : Ff11 Z h0 a3 (.ref o5)) (G_2 : n0 ≤ a3) (A_3 : own_Ar Z h0 o3 .int [(.int x0), (.int x1)]) (A_4 : own_Ar Z h0 o4 .int [(.int 1000000000)]) (A_5 : own_Ar Z h0 o5 .int [(.int 0)]) (G_5 : n0 ≤ o5) (ne_0_2 : a1 ≠ a3) (ne_0_5 : a1 ≠ o5) (ne_1_2 : a2 ≠ a3) (ne_1_5 : a2 ≠ o5) (ne_2_3 : a3 ≠ o3) (ne_2_4 : a3 ≠ o4) (ne_2_5 : a3 ≠ o5) (ne_3_5 : o3 ≠ o5) (ne_4_5 : o4 ≠ o5) (hH : H39 x0 x1 = true) :
 mM35 l ws (oR 2 3 6 41) #[(.ref a1), (.ref a2), (.ref a3), (.int 1)] Z h0 fun v h L => ∃ (b199 : Addr) (u0201 : Addr) (u0198 : Addr), v = some (.ref b199) ∧ Fr n0 L ∧ Keep h0 h [a3, o5] ∧ h0.size ≤ b199 ∧ h0.size ≤ u0201 ∧ h0.size ≤ u0198 ∧ u0201 ≠ b199 ∧ u0198 ≠ b199 ∧ u0198 ≠ u0201 ∧ Ee3 Z h b199 ∧ Ff9 Z h b199 (.int 0) ∧ Ff10 Z h b199 (.int 0) ∧ Ff11 Z h b199 (.ref u0201) ∧ own_Ar Z h u0201 .int [(.int 0)] ∧ own_Ar Z h u0198 .int [(.int 0), (.int (D38_1 x0 x1))] ∧ Ff9 Z h a3 (.int 1) ∧ Ff10 Z h a3 (.int 1) ∧ Ff11 Z h a3 (.ref u0198) ∧ own_Ar Z h o5 .int [(.int 0)] := by
 refine o_body own_pn35 k.1 (ef23 _ _ _ _) ?_
 intro p e s m b _ c T0 X0 j e0
 have N0 := Fr.nil n0
 have Z0 := own_Z0 O_0
 obtain ⟨hh0, q0⟩ := own_and hH
 obtain ⟨hh1, q1⟩ := o_ad q0
 refine o_aloadN X0 j (dc35 0 rfl) rfl rfl ?_
 refine o_getF X0 j (dc35 1 rfl) 176 rfl e0 F1intLen fun T183 X183 e183 => ?_
 refine o_ifYesD X183 j (dc35 2 rfl) 17 ?_
 refine o_aloadN X183 j (dc35 3 rfl) rfl rfl ?_
 refine o_getF X183 j (dc35 4 rfl) 176 rfl e183 F0intLen fun T184 X184 e184 => ?_
 refine o_ifYesD X184 j (dc35 5 rfl) 50 ?_
 refine o_aloadN X184 j (dc35 6 rfl) rfl rfl ?_
 refine o_aloadN X184 j (dc35 7 rfl) rfl rfl ?_
 refine o_callV X184 j (ct34 a1 a2 (2 : Int32) O_0 k E_0 (F0intLen) E_1 (F1intLen) (by decide)) rfl rfl (pL19 rfl) (dc35 8 rfl) 191 192 194 193 195 166 ⟨rfl, rfl, rfl, rfl, rfl, rfl⟩ E_0 0 e184 ?_
 rintro _ T185 L185 X185 ⟨rfl, M185, e185⟩
 have N185 := Fr.app N0 M185
 show oG p e b T185 m 55 #[sR a1, sR a2, sR a3, sI 1, sU, sU, sU, sU] [(.int 1)] _
 refine o_istore X185 j (dc35 9 rfl) (Ls' := #[sR a1, sR a2, sR a3, sI 1, sI 1, sU, sU, sU]) rfl ?_
 refine o_iload X185 j (dc35 10 rfl) rfl ?_
 refine o_ifYesD X185 j (dc35 11 rfl) 89 ?_
 refine o_iload X185 j (dc35 12 rfl) rfl ?_
 refine o_ifYesD X185 j (dc35 13 rfl) 127 ?_
 refine o_aloadN X185 j (dc35 14 rfl) rfl rfl ?_
 refine o_callV X185 j (ct35 a3 o5 O_0 k E_2 (F2intLen) (F2offset) (F2value) G_2 A_5 G_5 ne_2_5) rfl rfl (pL3 rfl) (dc35 15 rfl) 196 197 199 198 200 166 ⟨rfl, rfl, rfl, rfl, rfl, rfl⟩ E_2 0 e185 ?_
 rintro _ T186 L186 X186 ⟨rfl, M186, K186, P0186, P1186, P2186, P3186⟩
 have N186 := Fr.app N185 M186
 show oG p e b T186 m 131 #[sR a1, sR a2, sR a3, sI 1, sI 1, sU, sU, sU] [] _
 refine o_aloadN X186 j (dc35 16 rfl) rfl rfl ?_
 have y187 := (F1intLen.keep K186 (ninS ne_1_2 (ninS ne_1_5 nin0)))
 refine o_getF X186 j (dc35 17 rfl) 176 rfl rfl y187 fun T188 X188 e188 => ?_
 refine o_iconstL X188 j (dc35 18 rfl) 1 ?_
 refine o_icmpNoD X188 j (dc35 19 rfl) ?_
 refine o_aloadN X188 j (dc35 20 rfl) rfl rfl ?_
 refine o_aloadN X188 j (dc35 21 rfl) rfl rfl ?_
 have y189 := (F1value.keep K186 (ninS ne_1_2 (ninS ne_1_5 nin0)))
 refine o_getF X188 j (dc35 22 rfl) 174 rfl e188 y189 fun T190 X190 e190 => ?_
 refine o_aloadN X190 j (dc35 23 rfl) rfl rfl ?_
 have y191 := (F1offset.keep K186 (ninS ne_1_2 (ninS ne_1_5 nin0)))
 refine o_getF X190 j (dc35 24 rfl) 172 rfl e190 y191 fun T192 X192 e192 => ?_
 have y193 := (A_4.keep K186 (ninS (Ne.symm ne_2_4) (ninS ne_4_5 nin0)))
 refine o_iaload X192 j (dc35 25 rfl) e192 y193 (.int 1000000000) ?_
 refine o_aloadN X192 j (dc35 26 rfl) rfl rfl ?_
 have y194 := (F0intLen.keep K186 (ninS ne_0_2 (ninS ne_0_5 nin0)))
 have y195 := (F0offset.keep K186 (ninS ne_0_2 (ninS ne_0_5 nin0)))
 have y196 := (F0value.keep K186 (ninS ne_0_2 (ninS ne_0_5 nin0)))
 have y197 := (A_3.keep K186 (ninS (Ne.symm ne_2_3) (ninS ne_3_5 nin0)))
 refine o_callV X192 j (ct38 a1 a3 o3 o5 x0 x1 ((O_0.keep K186 (allS G_2 (allS G_5 all0)))) k ((E_0.keep K186)) y194 y195 y196 ((E_2.keep K186)) P0186 P1186 P2186 G_2 y197 P3186 ne_0_2 ne_2_3 hh0) rfl rfl (pL20 rfl) (dc35 27 rfl) 201 202 204 203 205 166 ⟨rfl, rfl, rfl, rfl, rfl, rfl⟩ (E_0.keep K186) 0 e192 ?_
 rintro _ T198 L198 X198 ⟨u0198, rfl, M198, K198, P0198, P1198, P2198, P3198, P4198⟩
 have N198 := Fr.app N186 M198
 have l198_0 := (ntr Z0 (ntr K186.1 P0198))
 show oG p e b T198 m 153 #[sR a1, sR a2, sR a3, sI 1, sI 1, sU, sU, sU] [(.int (R38_0 x0 x1))] _
 refine o_istore X198 j (dc35 28 rfl) (Ls' := #[sR a1, sR a2, sR a3, sI 1, sI 1, sI (R38_0 x0 x1), sU, sU]) rfl ?_
 refine o_iloadN X198 j (dc35 29 rfl) rfl ?_
 refine o_ifNoD X198 j (dc35 30 rfl) ?_
 refine o_iload X198 j (dc35 31 rfl) rfl ?_
 refine o_ifNo X198 j (dc35 32 rfl) (teq hh1).2 ?_
 refine o_new X198 j (dc35 33 rfl) 217 165 166 ⟨rfl, rfl, rfl⟩ rfl fun T199 h199 b199 X199 e199 g199 E199 A199 D199 => ?_
 have F199_offset : Ff10 Z h199 b199 (.int 0) := D199 (Or.inl (ot k 173 rfl)) (ty := .int) (by decide)
 have F199_value : Ff11 Z h199 b199 .null := D199 (Or.inl (ot k 175 rfl)) (ty := (.array .int)) (by decide)
 have F199_intLen : Ff9 Z h199 b199 (.int 0) := D199 (Or.inl (ot k 177 rfl)) (ty := .int) (by decide)
 have z199 := ntr (ntr K186.1 K198.1) (nqs g199)
 have l199 := (ntr Z0 z199)
 refine o_dup X199 j (dc35 34 rfl) rfl ?_
 have y200 := (((O_0.keep K186 (allS G_2 (allS G_5 all0))).keep K198 (allS G_2 all0)).ext E199)
 refine o_callSp X199 j (ct31 b199 y200 k A199 (F199_intLen) (F199_offset) (F199_value) l199) rfl rfl (pL3 rfl) (dc35 35 rfl) 218 168 170 166 ⟨rfl, rfl, rfl, rfl⟩ 1 e199 ?_
 rintro _ T201 L201 X201 ⟨u0201, rfl, M201, K201, P0201, P1201, P2201, P3201, P4201⟩
 have N201 := Fr.app N198 M201
 have l201_0 := (ntr Z0 (ntr (ntr (ntr z199 (Nat.le_of_eq g199)) E199.1) P0201))
 show oG p e b T201 m 171 #[sR a1, sR a2, sR a3, sI 1, sI 1, sI (R38_0 x0 x1), sU, sU] [(.ref b199)] _
 have d202 := (nne (nlt A199.lt P0201))
 have d203 := (Ne.symm d202)
 have d204 := (nne (nlt P1198.lt (nqs g199)))
 have d205 := (nne (nlt (nlt P1198.lt E199.1) P0201))
 have d206 := (nne (nlt (nlt (nlt E_2.lt K186.1) K198.1) (nqs g199)))
 have d207 := (nne (nlt (nlt P3186.lt K198.1) (nqs g199)))
 have y208 := (((P3186.keep K198 (ninS (Ne.symm ne_2_5) nin0)).ext E199).keep K201 (ninS d207 nin0))
 exact o_retA X201 j (dc35 36 rfl) rfl ⟨b199, u0201, u0198, rfl, N201, (((((Keep.refl h0 [a3, o5]).trans K186 (allS (mI 0 rfl) (allS (mI 1 rfl) all0))).trans K198 (allS (mI 0 rfl) all0)).ext E199).trans K201 (allS (Or.inr z199) all0)), z199, (ntr (ntr (ntr z199 (Nat.le_of_eq g199)) E199.1) P0201), (ntr K186.1 P0198), d203, d204, d205, (A199.keep K201), P2201, P3201, P4201, P1201, ((P1198.ext E199).keep K201 (ninS d204 nin0)), ((P2198.ext E199).keep K201 (ninS d206 nin0)), ((P3198.ext E199).keep K201 (ninS d206 nin0)), ((P4198.ext E199).keep K201 (ninS d206 nin0)), y208⟩
def H40 (x0 : Int32) (x1 : Int32) : Bool := (H39 x0 x1) && true
theorem own_pn34 : plainFor (⟨"java/math/MutableBigInteger", "divideKnuth", "(Ljava/math/MutableBigInteger;Ljava/math/MutableBigInteger;)Ljava/math/MutableBigInteger;"⟩ : MethodName) = true := plainFor_of_name (by first | (simp [plainName, overriddenIn]; done) | decide +kernel)
theorem own_pd21 : parseMethodDescriptor "(Ljava/math/MutableBigInteger;Ljava/math/MutableBigInteger;Z)Ljava/math/MutableBigInteger;" = some ⟨[(.object "java/math/MutableBigInteger"), (.object "java/math/MutableBigInteger"), .boolean], some (.object "java/math/MutableBigInteger")⟩ := by decide +kernel
def pL21 {L : List Value} := @lenOf _ _ _ own_pd21 L
theorem ef24 (b0 b1 b2 : Addr) (m : MethodId) : entryFrame m #[.ref b0, .ref b1, .ref b2] 3 = mkF m 0 #[.val (.ref b0), .val (.ref b1), .val (.ref b2)] [] := by first | (simp [entryFrame, mkF, argsToLocals, Value.category]; done) | rfl
abbrev mM34 (l : Launch) := own_Met l (⟨"java/math/MutableBigInteger", "divideKnuth", "(Ljava/math/MutableBigInteger;Ljava/math/MutableBigInteger;)Ljava/math/MutableBigInteger;"⟩ : MethodName) jdk_2101_method_56_code 3 (some (.object "java/math/MutableBigInteger"))
theorem ct40 (a1 a2 a3 o3 o4 o5 : Addr) (x0 x1 : Int32) (O_0 : Old Z n0 h0) (k : own_K Z a0 g) (E_0 : Ee3 Z h0 a1) (F0intLen : Ff9 Z h0 a1 (.int 2)) (F0offset : Ff10 Z h0 a1 (.int 0)) (F0value : Ff11 Z h0 a1 (.ref o3)) (E_1 : Ee3 Z h0 a2) (F1intLen : Ff9 Z h0 a2 (.int 1)) (F1offset : Ff10 Z h0 a2 (.int 0)) (F1value : Ff11 Z h0 a2 (.ref o4)) (E_2 : Ee3 Z h0 a3) (F2intLen : Ff9 Z h0 a3 (.int 0)) (F2offset : Ff10 Z h0 a3 (.int 0)) (F2value : Ff11 Z h0 a3 (.ref o5)) (G_2 : n0 ≤ a3) (A_3 : own_Ar Z h0 o3 .int [(.int x0), (.int x1)]) (A_4 : own_Ar Z h0 o4 .int [(.int 1000000000)]) (A_5 : own_Ar Z h0 o5 .int [(.int 0)]) (G_5 : n0 ≤ o5) (ne_0_2 : a1 ≠ a3) (ne_0_5 : a1 ≠ o5) (ne_1_2 : a2 ≠ a3) (ne_1_5 : a2 ≠ o5) (ne_2_3 : a3 ≠ o3) (ne_2_4 : a3 ≠ o4) (ne_2_5 : a3 ≠ o5) (ne_3_5 : o3 ≠ o5) (ne_4_5 : o4 ≠ o5) (hH : H40 x0 x1 = true) :
 mM34 l ws (oR 3 3 6 60) #[(.ref a1), (.ref a2), (.ref a3)] Z h0 fun v h L => ∃ (u0209 : Addr) (u1209 : Addr) (u2209 : Addr), v = some (.ref u0209) ∧ Fr n0 L ∧ Keep h0 h [a3, o5] ∧ h0.size ≤ u0209 ∧ h0.size ≤ u1209 ∧ h0.size ≤ u2209 ∧ u1209 ≠ u0209 ∧ u2209 ≠ u0209 ∧ u2209 ≠ u1209 ∧ Ee3 Z h u0209 ∧ Ff9 Z h u0209 (.int 0) ∧ Ff10 Z h u0209 (.int 0) ∧ Ff11 Z h u0209 (.ref u1209) ∧ own_Ar Z h u1209 .int [(.int 0)] ∧ own_Ar Z h u2209 .int [(.int 0), (.int (D38_1 x0 x1))] ∧ Ff9 Z h a3 (.int 1) ∧ Ff10 Z h a3 (.int 1) ∧ Ff11 Z h a3 (.ref u2209) ∧ own_Ar Z h o5 .int [(.int 0)] := by
 refine o_body own_pn34 k.1 (ef24 _ _ _) ?_
 intro p e s m b _ c T0 X0 j e0
 have N0 := Fr.nil n0
 have Z0 := own_Z0 O_0
 obtain ⟨hh0, q0⟩ := own_and hH
 refine o_aloadN X0 j (dc34 0 rfl) rfl rfl ?_
 refine o_aloadN X0 j (dc34 1 rfl) rfl rfl ?_
 refine o_aloadN X0 j (dc34 2 rfl) rfl rfl ?_
 refine o_iconstL X0 j (dc34 3 rfl) 1 ?_
 refine o_callV X0 j (ct39 a1 a2 a3 o3 o4 o5 x0 x1 O_0 k E_0 (F0intLen) (F0offset) (F0value) E_1 (F1intLen) (F1offset) (F1value) E_2 (F2intLen) (F2offset) (F2value) G_2 A_3 A_4 A_5 G_5 ne_0_2 ne_0_5 ne_1_2 ne_1_5 ne_2_3 ne_2_4 ne_2_5 ne_3_5 ne_4_5 hh0) rfl rfl (pL21 rfl) (dc34 4 rfl) 186 187 189 188 190 166 ⟨rfl, rfl, rfl, rfl, rfl, rfl⟩ E_0 0 e0 ?_
 rintro _ T209 L209 X209 ⟨u0209, u1209, u2209, rfl, M209, K209, P0209, P1209, P2209, P3209, P4209, P5209, P6209, P7209, P8209, P9209, P10209, P11209, P12209, P13209, P14209, P15209⟩
 have N209 := Fr.app N0 M209
 have l209_0 := (ntr Z0 P0209)
 have l209_1 := (ntr Z0 P1209)
 have l209_2 := (ntr Z0 P2209)
 show oG p e b T209 m 7 #[sR a1, sR a2, sR a3] [(.ref u0209)] _
 exact o_retA X209 j (dc34 5 rfl) rfl ⟨u0209, u1209, u2209, rfl, N209, ((Keep.refl h0 [a3, o5]).trans K209 (allS (mI 0 rfl) (allS (mI 1 rfl) all0))), P0209, P1209, P2209, P3209, P4209, P5209, P6209, P7209, P8209, P9209, P10209, P11209, P12209, P13209, P14209, P15209⟩
def H41 (x0 : Int32) : Bool := decide (¬ x0 < (1 : Int32)) && true
theorem own_pn45 : plainFor (⟨"java/util/Arrays", "checkLength", "(II)V"⟩ : MethodName) = true := plainFor_of_name (by first | (simp [plainName, overriddenIn]; done) | decide +kernel)
theorem ef25 (b0 b1 : Int32) (m : MethodId) : entryFrame m #[.int b0, .int b1] 2 = mkF m 0 #[.val (.int b0), .val (.int b1)] [] := by first | (simp [entryFrame, mkF, argsToLocals, Value.category]; done) | rfl
abbrev mM45 (l : Launch) := own_Met l (⟨"java/util/Arrays", "checkLength", "(II)V"⟩ : MethodName) jdk_65_method_131_code 2 none
theorem ct41 (x0 : Int32) (O_0 : Old Z n0 h0) (k : own_K Z a0 g) (hH : H41 x0 = true) :
 mM45 l ws (oR 0 0 0 0) #[(.int 1), (.int x0)] Z h0 fun v h L => v = none ∧ Fr n0 L ∧ h = h0 := by
 refine o_body own_pn45 k.1 (ef25 _ _) ?_
 intro p e s m b _ c T0 X0 j e0
 have N0 := Fr.nil n0
 have Z0 := own_Z0 O_0
 obtain ⟨hh0, q0⟩ := o_ad hH
 refine o_iloadN X0 j (dc45 0 rfl) rfl ?_
 refine o_iloadN X0 j (dc45 1 rfl) rfl ?_
 refine o_icmpYes X0 j (dc45 2 rfl) 37 (flt hh0).2.1 ?_
 exact o_retV X0 j (dc45 3 rfl) rfl ⟨rfl, N0, e0⟩
def H42 (x0 : Int32) (x1 : Int32) : Bool := decide (¬ x1 < x0) && true
theorem own_pn46 : plainFor (⟨"java/lang/Math", "min", "(II)I"⟩ : MethodName) = true := Jvm.Free.JP.mathPlain rfl (by decide +kernel)
abbrev mM46 (l : Launch) := own_Met l (⟨"java/lang/Math", "min", "(II)I"⟩ : MethodName) jdk_29_method_69_code 2 (some .int)
theorem ct42 (x0 x1 : Int32) (O_0 : Old Z n0 h0) (k : own_K Z a0 g) (hH : H42 x0 x1 = true) :
 mM46 l ws (oR 0 0 0 0) #[(.int x0), (.int x1)] Z h0 fun v h L => v = some (.int x0) ∧ Fr n0 L ∧ h = h0 := by
 refine o_body own_pn46 k.1 (ef25 _ _) ?_
 intro p e s m b _ c T0 X0 j e0
 have N0 := Fr.nil n0
 have Z0 := own_Z0 O_0
 obtain ⟨hh0, q0⟩ := o_ad hH
 refine o_iloadN X0 j (dc46 0 rfl) rfl ?_
 refine o_iloadN X0 j (dc46 1 rfl) rfl ?_
 refine o_icmpNo X0 j (dc46 2 rfl) (flt hh0).2.2.1 ?_
 refine o_iloadN X0 j (dc46 3 rfl) rfl ?_
 refine o_goto X0 j (dc46 4 rfl) 10 ?_
 exact o_retI X0 j (dc46 5 rfl) rfl ⟨rfl, N0, e0⟩
theorem own_pn44 : plainFor (⟨"java/util/Arrays", "copyOfRangeInt", "([III)[I"⟩ : MethodName) = true := plainFor_of_name (by first | (simp [plainName, overriddenIn]; done) | decide +kernel)
theorem own_pd22 : parseMethodDescriptor "(II)V" = some ⟨[.int, .int], none⟩ := by decide +kernel
def pL22 {L : List Value} := @lenOf _ _ _ own_pd22 L
theorem own_pd23 : parseMethodDescriptor "(II)I" = some ⟨[.int, .int], some .int⟩ := by decide +kernel
def pL23 {L : List Value} := @lenOf _ _ _ own_pd23 L
theorem ef26 (b0 : Addr) (b1 b2 : Int32) (m : MethodId) : entryFrame m #[.ref b0, .int b1, .int b2] 5 = mkF m 0 #[.val (.ref b0), .val (.int b1), .val (.int b2), .unset, .unset] [] := by first | (simp [entryFrame, mkF, argsToLocals, Value.category]; done) | rfl
abbrev mM44 (l : Launch) := own_Met l (⟨"java/util/Arrays", "copyOfRangeInt", "([III)[I"⟩ : MethodName) jdk_65_method_137_code 5 (some (.array .int))
theorem ct44 (a1 : Addr) (x0 : Int32) (O_0 : Old Z n0 h0) (k : own_K Z a0 g) (A_0 : own_Ar Z h0 a1 .int [(.int 0), (.int x0)]) :
 mM44 l ws (oR 1 1 1 24) #[(.ref a1), (.int 1), (.int 2)] Z h0 fun v h L => ∃ (b211 : Addr), v = some (.ref b211) ∧ Fr n0 L ∧ Keep h0 h [] ∧ h0.size ≤ b211 ∧ own_Ar Z h b211 .int [(.int x0)] := by
 refine o_body own_pn44 k.1 (ef26 _ _ _) ?_
 intro p e s m b _ c T0 X0 j e0
 obtain ⟨hx, hby, hml, hown, hnm, hret, hlk, hZ, hw⟩ := id j
 have N0 := Fr.nil n0
 have Z0 := own_Z0 O_0
 refine o_iloadN X0 j (dc44 0 rfl) rfl ?_
 refine o_iloadN X0 j (dc44 1 rfl) rfl ?_
 refine o_callS X0 j (ct41 (2 : Int32) O_0 k (by decide)) rfl rfl (pL22 rfl) (dc44 2 rfl) 237 238 232 239 ⟨rfl, rfl, rfl, rfl⟩ 0 e0 ?_
 rintro _ T210 L210 X210 ⟨rfl, M210, e210⟩
 have N210 := Fr.app N0 M210
 show oG p e b T210 m 5 #[sR a1, sI 1, sI 2, sU, sU] [] _
 refine o_iloadN X210 j (dc44 3 rfl) rfl ?_
 refine o_iloadN X210 j (dc44 4 rfl) rfl ?_
 refine o_isubL X210 j (dc44 5 rfl) 1 ?_
 refine o_istoreN X210 j (dc44 6 rfl) (Ls' := #[sR a1, sI 1, sI 2, sI 1, sU]) rfl ?_
 refine o_iloadN X210 j (dc44 7 rfl) rfl ?_
 refine o_newA X210 j (dc44 8 rfl) 149 rfl e210 1 [(.int 0)] fun T211 h211 b211 X211 e211 g211 E211 A211 => ?_
 have z211 := ntr (Nat.le_refl _) (nqs g211)
 have l211 := (ntr Z0 z211)
 refine o_astore X211 j (dc44 9 rfl) rfl (Ls' := #[sR a1, sI 1, sI 2, sI 1, sR b211]) rfl ?_
 refine o_aloadN X211 j (dc44 10 rfl) rfl rfl ?_
 refine o_iloadN X211 j (dc44 11 rfl) rfl ?_
 refine o_aload X211 j (dc44 12 rfl) rfl rfl ?_
 refine o_iconstL X211 j (dc44 13 rfl) 0 ?_
 refine o_aloadN X211 j (dc44 14 rfl) rfl rfl ?_
 refine o_len X211 j (dc44 15 rfl) e211 ((A_0.ext E211)) 2 ?_
 refine o_iloadN X211 j (dc44 16 rfl) rfl ?_
 refine o_isubL X211 j (dc44 17 rfl) 1 ?_
 refine o_iloadN X211 j (dc44 18 rfl) rfl ?_
 refine o_callS X211 j (ct42 (1 : Int32) (1 : Int32) ((O_0.ext E211)) k (by decide)) rfl rfl (pL23 rfl) (dc44 19 rfl) 240 241 67 242 ⟨rfl, rfl, rfl, rfl⟩ 4 e211 ?_
 rintro _ T212 L212 X212 ⟨rfl, M212, e212⟩
 have N212 := Fr.app N210 M212
 show oG p e b T212 m 27 #[sR a1, sI 1, sI 2, sI 1, sR b211] [(.int 1), (.int 0), (.ref b211), (.int 1), (.ref a1)] _
 refine own_cp X212 hx hby (dc44 20 rfl).1 (pc' := 30) rfl hZ hown (ot k 243 rfl) (ot k 246 rfl) (ot k 244 rfl) (ot k 245 rfl) e212 (ty := .int) rfl ((A_0.ext E211)) A211 (by simp [fits]) (by simp [fits]) (by decide) (by decide) (by decide) (by show _ ≤ (2 : Nat); decide) (by show _ ≤ (1 : Nat); decide) (by show (2 : Nat) < _; decide) (by show (1 : Nat) < _; decide) (us := [(.int x0)]) (by rfl) N212 l211 (by rw [hml]; rfl) (by decide) (W := 0) (Nat.le_of_eq rfl) (by decide) ?_
 intro T213 h213 L213 X213 e213 N213 K213 A213
 show oG p e b T213 m 30 #[sR a1, sI 1, sI 2, sI 1, sR b211] [] _
 refine o_aload X213 j (dc44 21 rfl) rfl rfl ?_
 exact o_retA X213 j (dc44 22 rfl) e213 ⟨b211, rfl, N213, (((Keep.refl h0 []).ext E211).trans K213 (allS (Or.inr z211) all0)), z211, A213⟩
theorem own_pn43 : plainFor (⟨"java/util/Arrays", "copyOfRange", "([III)[I"⟩ : MethodName) = true := plainFor_of_name (by first | (simp [plainName, overriddenIn]; done) | decide +kernel)
theorem own_pd24 : parseMethodDescriptor "([III)[I" = some ⟨[(.array .int), .int, .int], some (.array .int)⟩ := by decide +kernel
def pL24 {L : List Value} := @lenOf _ _ _ own_pd24 L
theorem ef27 (b0 : Addr) (b1 b2 : Int32) (m : MethodId) : entryFrame m #[.ref b0, .int b1, .int b2] 3 = mkF m 0 #[.val (.ref b0), .val (.int b1), .val (.int b2)] [] := by first | (simp [entryFrame, mkF, argsToLocals, Value.category]; done) | rfl
abbrev mM43 (l : Launch) := own_Met l (⟨"java/util/Arrays", "copyOfRange", "([III)[I"⟩ : MethodName) jdk_65_method_136_code 3 (some (.array .int))
theorem ct45 (a1 : Addr) (x0 : Int32) (O_0 : Old Z n0 h0) (k : own_K Z a0 g) (A_0 : own_Ar Z h0 a1 .int [(.int 0), (.int x0)]) :
 mM43 l ws (oR 2 1 1 40) #[(.ref a1), (.int 1), (.int 2)] Z h0 fun v h L => ∃ (u0214 : Addr), v = some (.ref u0214) ∧ Fr n0 L ∧ Keep h0 h [] ∧ h0.size ≤ u0214 ∧ own_Ar Z h u0214 .int [(.int x0)] := by
 refine o_body own_pn43 k.1 (ef27 _ _ _) ?_
 intro p e s m b _ c T0 X0 j e0
 have N0 := Fr.nil n0
 have Z0 := own_Z0 O_0
 refine o_iloadN X0 j (dc43 0 rfl) rfl ?_
 refine o_ifYesD X0 j (dc43 1 rfl) 10 ?_
 refine o_aloadN X0 j (dc43 2 rfl) rfl rfl ?_
 refine o_iloadN X0 j (dc43 3 rfl) rfl ?_
 refine o_iloadN X0 j (dc43 4 rfl) rfl ?_
 refine o_callS X0 j (ct44 a1 x0 O_0 k A_0) rfl rfl (pL24 rfl) (dc43 5 rfl) 234 235 232 236 ⟨rfl, rfl, rfl, rfl⟩ 0 e0 ?_
 rintro _ T214 L214 X214 ⟨u0214, rfl, M214, K214, P0214, P1214⟩
 have N214 := Fr.app N0 M214
 have l214_0 := (ntr Z0 P0214)
 show oG p e b T214 m 16 #[sR a1, sI 1, sI 2] [(.ref u0214)] _
 exact o_retA X214 j (dc43 6 rfl) rfl ⟨u0214, rfl, N214, ((Keep.refl h0 []).trans K214 all0), P0214, P1214⟩
theorem own_pn47 : plainFor (⟨"java/util/Arrays", "fill", "([II)V"⟩ : MethodName) = true := plainFor_of_name (by first | (simp [plainName, overriddenIn]; done) | decide +kernel)
abbrev mM47 (l : Launch) := own_Met l (⟨"java/util/Arrays", "fill", "([II)V"⟩ : MethodName) jdk_65_method_103_code 4 none
theorem ct46 (a1 : Addr) (x0 : Int32) (O_0 : Old Z n0 h0) (k : own_K Z a0 g) (A_0 : own_Ar Z h0 a1 .int [(.int 0), (.int x0)]) (G_0 : n0 ≤ a1) :
 mM47 l ws (oR 0 0 0 0) #[(.ref a1), (.int 0)] Z h0 fun v h L => v = none ∧ Fr n0 L ∧ Keep h0 h [a1] ∧ own_Ar Z h a1 .int [(.int 0), (.int 0)] := by
 refine o_body own_pn47 k.1 (ef16 _ _) ?_
 intro p e s m b _ c T0 X0 j e0
 have N0 := Fr.nil n0
 have Z0 := own_Z0 O_0
 refine o_iconstL X0 j (dc47 0 rfl) 0 ?_
 refine o_istoreN X0 j (dc47 1 rfl) (Ls' := #[sR a1, sI 0, sI 0, sU]) rfl ?_
 refine o_aloadN X0 j (dc47 2 rfl) rfl rfl ?_
 refine o_len X0 j (dc47 3 rfl) e0 A_0 2 ?_
 refine o_istoreN X0 j (dc47 4 rfl) (Ls' := #[sR a1, sI 0, sI 0, sI 2]) rfl ?_
 refine o_iloadN X0 j (dc47 5 rfl) rfl ?_
 refine o_iloadN X0 j (dc47 6 rfl) rfl ?_
 refine o_icmpNoD X0 j (dc47 7 rfl) ?_
 refine o_aloadN X0 j (dc47 8 rfl) rfl rfl ?_
 refine o_iloadN X0 j (dc47 9 rfl) rfl ?_
 refine o_iloadN X0 j (dc47 10 rfl) rfl ?_
 refine o_iastore X0 j (dc47 11 rfl) e0 A_0 (.int 0) fun T215 h215 X215 e215 W215 A215 => ?_
 have B215 : own_Ar Z h215 a1 .int [(.int 0), (.int x0)] := A215
 have N215 := Fr.snoc X215 N0 G_0
 refine o_iinc X215 j (dc47 12 rfl) rfl (z := 1) (by decide) (Ls' := #[sR a1, sI 0, sI 1, sI 2]) rfl ?_
 refine o_goto X215 j (dc47 13 rfl) 5 ?_
 refine o_iloadN X215 j (dc47 5 rfl) rfl ?_
 refine o_iloadN X215 j (dc47 6 rfl) rfl ?_
 refine o_icmpNoD X215 j (dc47 7 rfl) ?_
 refine o_aloadN X215 j (dc47 8 rfl) rfl rfl ?_
 refine o_iloadN X215 j (dc47 9 rfl) rfl ?_
 refine o_iloadN X215 j (dc47 10 rfl) rfl ?_
 refine o_iastore X215 j (dc47 11 rfl) e215 B215 (.int x0) fun T216 h216 X216 e216 W216 A216 => ?_
 have B216 : own_Ar Z h216 a1 .int [(.int 0), (.int 0)] := A216
 have N216 := Fr.snoc X216 N215 G_0
 refine o_iinc X216 j (dc47 12 rfl) rfl (z := 2) (by decide) (Ls' := #[sR a1, sI 0, sI 2, sI 2]) rfl ?_
 refine o_goto X216 j (dc47 13 rfl) 5 ?_
 refine o_iloadN X216 j (dc47 5 rfl) rfl ?_
 refine o_iloadN X216 j (dc47 6 rfl) rfl ?_
 refine o_icmpYesD X216 j (dc47 7 rfl) 20 ?_
 exact o_retV X216 j (dc47 14 rfl) e216 ⟨rfl, N216, (((Keep.refl h0 [a1]).wr W215 (mI 0 rfl)).wr W216 (mI 0 rfl)), B216⟩
theorem own_pn42 : plainFor (⟨"java/math/MutableBigInteger", "getMagnitudeArray", "()[I"⟩ : MethodName) = true := plainFor_of_name (by first | (simp [plainName, overriddenIn]; done) | decide +kernel)
theorem own_pd25 : parseMethodDescriptor "([II)V" = some ⟨[(.array .int), .int], none⟩ := by decide +kernel
def pL25 {L : List Value} := @lenOf _ _ _ own_pd25 L
theorem ef28 (b0 : Addr) (m : MethodId) : entryFrame m #[.ref b0] 2 = mkF m 0 #[.val (.ref b0), .unset] [] := by first | (simp [entryFrame, mkF, argsToLocals, Value.category]; done) | rfl
abbrev mM42 (l : Launch) := own_Met l (⟨"java/math/MutableBigInteger", "getMagnitudeArray", "()[I"⟩ : MethodName) jdk_2101_method_7_code 2 (some (.array .int))
theorem ct47 (a1 o1 : Addr) (x0 : Int32) (O_0 : Old Z n0 h0) (k : own_K Z a0 g) (E_0 : Ee3 Z h0 a1) (F0intLen : Ff9 Z h0 a1 (.int 1)) (F0offset : Ff10 Z h0 a1 (.int 1)) (F0value : Ff11 Z h0 a1 (.ref o1)) (G_0 : n0 ≤ a1) (A_1 : own_Ar Z h0 o1 .int [(.int 0), (.int x0)]) (G_1 : n0 ≤ o1) (ne_0_1 : a1 ≠ o1) :
 mM42 l ws (oR 3 1 1 54) #[(.ref a1)] Z h0 fun v h L => ∃ (u0222 : Addr), v = some (.ref u0222) ∧ Fr n0 L ∧ Keep h0 h [a1, o1] ∧ h0.size ≤ u0222 ∧ own_Ar Z h u0222 .int [(.int x0)] ∧ Ff9 Z h a1 (.int 1) ∧ Ff10 Z h a1 (.int 0) ∧ Ff11 Z h a1 (.ref u0222) ∧ own_Ar Z h o1 .int [(.int 0), (.int 0)] := by
 refine o_body own_pn42 k.1 (ef28 _) ?_
 intro p e s m b _ c T0 X0 j e0
 have N0 := Fr.nil n0
 have Z0 := own_Z0 O_0
 refine o_aloadN X0 j (dc42 0 rfl) rfl rfl ?_
 refine o_getF X0 j (dc42 1 rfl) 172 rfl e0 F0offset fun T217 X217 e217 => ?_
 refine o_ifYesD X217 j (dc42 2 rfl) 19 ?_
 refine o_aloadN X217 j (dc42 9 rfl) rfl rfl ?_
 refine o_getF X217 j (dc42 10 rfl) 174 rfl e217 F0value fun T218 X218 e218 => ?_
 refine o_aloadN X218 j (dc42 11 rfl) rfl rfl ?_
 refine o_getF X218 j (dc42 12 rfl) 172 rfl e218 F0offset fun T219 X219 e219 => ?_
 refine o_aloadN X219 j (dc42 13 rfl) rfl rfl ?_
 refine o_getF X219 j (dc42 14 rfl) 172 rfl e219 F0offset fun T220 X220 e220 => ?_
 refine o_aloadN X220 j (dc42 15 rfl) rfl rfl ?_
 refine o_getF X220 j (dc42 16 rfl) 176 rfl e220 F0intLen fun T221 X221 e221 => ?_
 refine o_iaddL X221 j (dc42 17 rfl) 2 ?_
 refine o_callS X221 j (ct45 o1 x0 O_0 k A_1) rfl rfl (pL24 rfl) (dc42 18 rfl) 230 231 232 233 ⟨rfl, rfl, rfl, rfl⟩ 0 e221 ?_
 rintro _ T222 L222 X222 ⟨u0222, rfl, M222, K222, P0222, P1222⟩
 have N222 := Fr.app N0 M222
 have l222_0 := (ntr Z0 P0222)
 show oG p e b T222 m 39 #[sR a1, sU] [(.ref u0222)] _
 refine o_astoreN X222 j (dc42 19 rfl) rfl (Ls' := #[sR a1, sR u0222]) rfl ?_
 refine o_aloadN X222 j (dc42 20 rfl) rfl rfl ?_
 refine o_getF X222 j (dc42 21 rfl) 174 rfl rfl (F0value.keep K222 nin0) fun T223 X223 e223 => ?_
 refine o_iconstL X223 j (dc42 22 rfl) 0 ?_
 refine o_callS X223 j (ct46 o1 x0 ((O_0.keep K222 all0)) k ((A_1.keep K222 nin0)) G_1) rfl rfl (pL25 rfl) (dc42 23 rfl) 247 248 232 249 ⟨rfl, rfl, rfl, rfl⟩ 0 e223 ?_
 rintro _ T224 L224 X224 ⟨rfl, M224, K224, P0224⟩
 have N224 := Fr.app N222 M224
 show oG p e b T224 m 48 #[sR a1, sR u0222] [] _
 refine o_aloadN X224 j (dc42 24 rfl) rfl rfl ?_
 refine o_iconstL X224 j (dc42 25 rfl) 0 ?_
 have y226 := ((F0offset.keep K222 nin0).keep K224 (ninS ne_0_1 nin0))
 refine o_put X224 j (dc42 26 rfl) 172 173 165 ⟨rfl, rfl, rfl⟩ .int rfl y226 ((E_0.keep K222).keep K224) fun T225 h225 X225 e225 W225 => ?_
 have F225 := y226.same W225
 have N225 := Fr.snoc X225 N224 G_0
 refine o_aloadN X225 j (dc42 27 rfl) rfl rfl ?_
 refine o_aloadN X225 j (dc42 28 rfl) rfl rfl ?_
 have d227 := (nne (nlt A_1.lt P0222))
 have d228 := (Ne.symm d227)
 have d229 := (nne (nlt E_0.lt P0222))
 have d230 := (Ne.symm d229)
 have y231 := ((P1222.keep K224 (ninS d228 nin0)).other W225 d230)
 refine o_len X225 j (dc42 29 rfl) e225 y231 1 ?_
 have y233 := (((F0intLen.keep K222 nin0).keep K224 (ninS ne_0_1 nin0)).other W225 (Or.inr (sn17 k)))
 refine o_put X225 j (dc42 30 rfl) 176 177 165 ⟨rfl, rfl, rfl⟩ .int e225 y233 (((E_0.keep K222).keep K224).wr W225) fun T232 h232 X232 e232 W232 => ?_
 have F232 := y233.same W232
 have N232 := Fr.snoc X232 N225 G_0
 refine o_aloadN X232 j (dc42 31 rfl) rfl rfl ?_
 refine o_aloadN X232 j (dc42 32 rfl) rfl rfl ?_
 have y235 := ((((F0value.keep K222 nin0).keep K224 (ninS ne_0_1 nin0)).other W225 (Or.inr (sn16 k))).other W232 (Or.inr (sn21 k)))
 have y236 := ((((E_0.keep K222).keep K224).wr W225).wr W232)
 refine o_put X232 j (dc42 33 rfl) 174 175 165 ⟨rfl, rfl, rfl⟩ (.array .int) e232 y235 y236 fun T234 h234 X234 e234 W234 => ?_
 have F234 := y235.same W234
 have N234 := Fr.snoc X234 N232 G_0
 refine o_aloadN X234 j (dc42 34 rfl) rfl rfl ?_
 refine o_getF X234 j (dc42 35 rfl) 174 rfl e234 F234 fun T237 X237 e237 => ?_
 have y238 := (F232.other W234 (Or.inr (sn18 k)))
 have y239 := ((F225.other W232 (Or.inr (sn20 k))).other W234 (Or.inr (sn19 k)))
 have y240 := (((P0224.other W225 (Ne.symm ne_0_1)).other W232 (Ne.symm ne_0_1)).other W234 (Ne.symm ne_0_1))
 exact o_retA X237 j (dc42 36 rfl) e237 ⟨u0222, rfl, N234, ((((((Keep.refl h0 [a1, o1]).trans K222 all0).trans K224 (allS (mI 1 rfl) all0)).wr W225 (mI 0 rfl)).wr W232 (mI 0 rfl)).wr W234 (mI 0 rfl)), P0222, ((y231.other W232 d230).other W234 d230), y238, y239, F234, y240⟩
theorem own_pn48 : plainFor (⟨"java/math/BigInteger", "<init>", "([II)V"⟩ : MethodName) = true := plainFor_of_name (by first | (simp [plainName, overriddenIn]; done) | decide +kernel)
theorem ef29 (b0 b1 : Addr) (b2 : Int32) (m : MethodId) : entryFrame m #[.ref b0, .ref b1, .int b2] 3 = mkF m 0 #[.val (.ref b0), .val (.ref b1), .val (.int b2)] [] := by first | (simp [entryFrame, mkF, argsToLocals, Value.category]; done) | rfl
abbrev mM48 (l : Launch) := own_Met l (⟨"java/math/BigInteger", "<init>", "([II)V"⟩ : MethodName) jdk_2097_method_25_code 3 none
theorem ct48 (a1 a2 : Addr) (x0 : Int32) (O_0 : Old Z n0 h0) (k : own_K Z a0 g) (E_0 : Ee0 Z h0 a1) (F0bitLengthPlusOne : Ff8 Z h0 a1 (.int 0)) (F0mag : Ff1 Z h0 a1 .null) (F0signum : Ff0 Z h0 a1 (.int 0)) (G_0 : n0 ≤ a1) (A_1 : own_Ar Z h0 a2 .int [(.int x0)]) (ne_0_1 : a1 ≠ a2) :
 mM48 l ws (oR 2 0 0 24) #[(.ref a1), (.ref a2), (.int 1)] Z h0 fun v h L => v = none ∧ Fr n0 L ∧ Keep h0 h [a1] ∧ Ff8 Z h a1 (.int 0) ∧ Ff1 Z h a1 (.ref a2) ∧ Ff0 Z h a1 (.int 1) := by
 refine o_body own_pn48 k.1 (ef29 _ _ _) ?_
 intro p e s m b _ c T0 X0 j e0
 have N0 := Fr.nil n0
 have Z0 := own_Z0 O_0
 refine o_aloadN X0 j (dc48 0 rfl) rfl rfl ?_
 refine o_callSp X0 j (ct25 a1 O_0 k E_0) rfl rfl (pL3 rfl) (dc48 1 rfl) 145 83 87 86 ⟨rfl, rfl, rfl, rfl⟩ 0 e0 ?_
 rintro _ T241 L241 X241 ⟨rfl, M241, e241⟩
 have N241 := Fr.app N0 M241
 show oG p e b T241 m 4 #[sR a1, sR a2, sI 1] [] _
 refine o_aloadN X241 j (dc48 2 rfl) rfl rfl ?_
 refine o_aloadN X241 j (dc48 3 rfl) rfl rfl ?_
 refine o_len X241 j (dc48 4 rfl) e241 A_1 1 ?_
 refine o_ifYesD X241 j (dc48 5 rfl) 14 ?_
 refine o_iloadN X241 j (dc48 6 rfl) rfl ?_
 refine o_putf X241 j (dc48 7 rfl) 147 148 140 ⟨rfl, rfl, rfl⟩ .int e241 F0signum E_0 fun T242 h242 X242 e242 W242 => ?_
 have F242 := (F0signum).same W242
 have N242 := Fr.snoc X242 N241 G_0
 refine o_aloadN X242 j (dc48 8 rfl) rfl rfl ?_
 refine o_aloadN X242 j (dc48 9 rfl) rfl rfl ?_
 have y244 := (F0mag.other W242 (Or.inr (sn12 k)))
 refine o_putf X242 j (dc48 10 rfl) 150 151 140 ⟨rfl, rfl, rfl⟩ (.array .int) e242 y244 (E_0.wr W242) fun T243 h243 X243 e243 W243 => ?_
 have F243 := y244.same W243
 have N243 := Fr.snoc X243 N242 G_0
 refine o_aloadN X243 j (dc48 11 rfl) rfl rfl ?_
 refine o_getF X243 j (dc48 12 rfl) 150 rfl e243 F243 fun T245 X245 e245 => ?_
 have y246 := ((A_1.other W242 (Ne.symm ne_0_1)).other W243 (Ne.symm ne_0_1))
 refine o_len X245 j (dc48 13 rfl) e245 y246 1 ?_
 refine o_ldc X245 j (dc48 14 rfl) 253 rfl ?_
 refine o_icmpYesD X245 j (dc48 15 rfl) 37 ?_
 have y247 := ((F0bitLengthPlusOne.other W242 (Or.inr (sn13 k))).other W243 (Or.inr (sn14 k)))
 have y248 := (F242.other W243 (Or.inr (sn15 k)))
 exact o_retV X245 j (dc48 16 rfl) e245 ⟨rfl, N243, (((Keep.refl h0 [a1]).wr W242 (mI 0 rfl)).wr W243 (mI 0 rfl)), y247, F243, y248⟩
theorem own_pn41 : plainFor (⟨"java/math/MutableBigInteger", "toBigInteger", "(I)Ljava/math/BigInteger;"⟩ : MethodName) = true := plainFor_of_name (by first | (simp [plainName, overriddenIn]; done) | decide +kernel)
theorem own_pd26 : parseMethodDescriptor "()[I" = some ⟨[], some (.array .int)⟩ := by decide +kernel
def pL26 {L : List Value} := @lenOf _ _ _ own_pd26 L
theorem ef30 (b0 : Addr) (b1 : Int32) (m : MethodId) : entryFrame m #[.ref b0, .int b1] 2 = mkF m 0 #[.val (.ref b0), .val (.int b1)] [] := by first | (simp [entryFrame, mkF, argsToLocals, Value.category]; done) | rfl
abbrev mM41 (l : Launch) := own_Met l (⟨"java/math/MutableBigInteger", "toBigInteger", "(I)Ljava/math/BigInteger;"⟩ : MethodName) jdk_2101_method_9_code 2 (some (.object "java/math/BigInteger"))
theorem ct49 (a1 o1 : Addr) (x0 : Int32) (O_0 : Old Z n0 h0) (k : own_K Z a0 g) (E_0 : Ee3 Z h0 a1) (F0intLen : Ff9 Z h0 a1 (.int 1)) (F0offset : Ff10 Z h0 a1 (.int 1)) (F0value : Ff11 Z h0 a1 (.ref o1)) (G_0 : n0 ≤ a1) (A_1 : own_Ar Z h0 o1 .int [(.int 0), (.int x0)]) (G_1 : n0 ≤ o1) (ne_0_1 : a1 ≠ o1) :
 mM41 l ws (oR 4 2 7 69) #[(.ref a1), (.int 1)] Z h0 fun v h L => ∃ (b250 : Addr) (u0251 : Addr), v = some (.ref b250) ∧ Fr n0 L ∧ Keep h0 h [a1, o1] ∧ h0.size ≤ b250 ∧ h0.size ≤ u0251 ∧ u0251 ≠ b250 ∧ Ee0 Z h b250 ∧ Ff8 Z h b250 (.int 0) ∧ Ff1 Z h b250 (.ref u0251) ∧ Ff0 Z h b250 (.int 1) ∧ own_Ar Z h u0251 .int [(.int x0)] ∧ Ff9 Z h a1 (.int 1) ∧ Ff10 Z h a1 (.int 0) ∧ Ff11 Z h a1 (.ref u0251) ∧ own_Ar Z h o1 .int [(.int 0), (.int 0)] := by
 refine o_body own_pn41 k.1 (ef30 _ _) ?_
 intro p e s m b _ c T0 X0 j e0
 have N0 := Fr.nil n0
 have Z0 := own_Z0 O_0
 refine o_aloadN X0 j (dc41 0 rfl) rfl rfl ?_
 refine o_getF X0 j (dc41 1 rfl) 176 rfl e0 F0intLen fun T249 X249 e249 => ?_
 refine o_ifNoD X249 j (dc41 2 rfl) ?_
 refine o_iloadN X249 j (dc41 3 rfl) rfl ?_
 refine o_ifYesD X249 j (dc41 4 rfl) 15 ?_
 refine o_new X249 j (dc41 7 rfl) 224 140 136 ⟨rfl, rfl, rfl⟩ e249 fun T250 h250 b250 X250 e250 g250 E250 A250 D250 => ?_
 have F250_signum : Ff0 Z h250 b250 (.int 0) := D250 (Or.inr (ot k 148 rfl)) (ty := .int) (by decide)
 have F250_mag : Ff1 Z h250 b250 .null := D250 (Or.inr (ot k 151 rfl)) (ty := (.array .int)) (by decide)
 have F250_bitLengthPlusOne : Ff8 Z h250 b250 (.int 0) := D250 (Or.inl (ot k 261 rfl)) (ty := .int) (by decide)
 have z250 := ntr (Nat.le_refl _) (nqs g250)
 have l250 := (ntr Z0 z250)
 refine o_dup X250 j (dc41 8 rfl) rfl ?_
 refine o_aloadN X250 j (dc41 9 rfl) rfl rfl ?_
 refine o_callPv X250 j (ct47 a1 o1 x0 ((O_0.ext E250)) k ((E_0.ext E250)) ((F0intLen.ext E250)) ((F0offset.ext E250)) ((F0value.ext E250)) G_0 ((A_1.ext E250)) G_1 ne_0_1) rfl rfl (pL26 rfl) (dc41 10 rfl) 225 227 228 226 229 166 ⟨rfl, rfl, rfl, rfl, rfl, rfl⟩ (E_0.ext E250) 2 e250 ?_
 rintro _ T251 L251 X251 ⟨u0251, rfl, M251, K251, P0251, P1251, P2251, P3251, P4251, P5251⟩
 have N251 := Fr.app N0 M251
 have l251_0 := (ntr Z0 (ntr E250.1 P0251))
 show oG p e b T251 m 23 #[sR a1, sI 1] [(.ref u0251), (.ref b250), (.ref b250)] _
 refine o_iloadN X251 j (dc41 11 rfl) rfl ?_
 have y252 := ((O_0.ext E250).keep K251 (allS G_0 (allS G_1 all0)))
 have d253 := (nne (nlt A_1.lt (nqs g250)))
 have d254 := (Ne.symm d253)
 have d255 := (nne (nlt E_0.lt (nqs g250)))
 have d256 := (Ne.symm d255)
 have y257 := (F250_bitLengthPlusOne.keep K251 (ninS d256 (ninS d254 nin0)))
 have y258 := (F250_mag.keep K251 (ninS d256 (ninS d254 nin0)))
 have y259 := (F250_signum.keep K251 (ninS d256 (ninS d254 nin0)))
 have d260 := (nne (nlt A250.lt P0251))
 refine o_callSp X251 j (ct48 b250 u0251 x0 y252 k ((A250.keep K251)) y257 y258 y259 l250 P1251 d260) rfl rfl (pL25 rfl) (dc41 12 rfl) 250 251 252 136 ⟨rfl, rfl, rfl, rfl⟩ 1 rfl ?_
 rintro _ T261 L261 X261 ⟨rfl, M261, K261, P0261, P1261, P2261⟩
 have N261 := Fr.app N251 M261
 show oG p e b T261 m 27 #[sR a1, sI 1] [(.ref b250)] _
 exact o_retA X261 j (dc41 13 rfl) rfl ⟨b250, u0251, rfl, N261, ((((Keep.refl h0 [a1, o1]).ext E250).trans K251 (allS (mI 0 rfl) (allS (mI 1 rfl) all0))).trans K261 (allS (Or.inr z250) all0)), z250, (ntr E250.1 P0251), (Ne.symm d260), ((A250.keep K251).keep K261), P0261, P1261, P2261, (P1251.keep K261 (ninS (Ne.symm d260) nin0)), (P2251.keep K261 (ninS d255 nin0)), (P3251.keep K261 (ninS d255 nin0)), (P4251.keep K261 (ninS d255 nin0)), (P5251.keep K261 (ninS d253 nin0))⟩
theorem ct50 (a1 : Addr) (O_0 : Old Z n0 h0) (k : own_K Z a0 g) (E_0 : Ee3 Z h0 a1) (F0intLen : Ff9 Z h0 a1 (.int 0)) :
 mM41 l ws (oR 0 0 0 0) #[(.ref a1), (.int 1)] Z h0 fun v h L => v = some (.ref (g 0)) ∧ Fr n0 L ∧ h = h0 := by
 refine o_body own_pn41 k.1 (ef30 _ _) ?_
 intro p e s m b _ c T0 X0 j e0
 have N0 := Fr.nil n0
 have Z0 := own_Z0 O_0
 refine o_aloadN X0 j (dc41 0 rfl) rfl rfl ?_
 refine o_getF X0 j (dc41 1 rfl) 176 rfl e0 F0intLen fun T262 X262 e262 => ?_
 refine o_ifYesD X262 j (dc41 2 rfl) 11 ?_
 refine o_getS X262 j (dc41 5 rfl) 254 rfl e262 ((k5 k).ext O_0.2) fun T263 X263 e263 => ?_
 exact o_retA X263 j (dc41 6 rfl) rfl ⟨rfl, N0, e263⟩
def H51 (x0 : Int32) (x1 : Int32) : Bool := (H40 x0 x1) && true
theorem own_pn31 : plainFor (⟨"java/math/BigInteger", "divideAndRemainderKnuth", "(Ljava/math/BigInteger;)[Ljava/math/BigInteger;"⟩ : MethodName) = true := plainFor_of_name (by first | (simp [plainName, overriddenIn]; done) | decide +kernel)
theorem own_pd27 : parseMethodDescriptor "([I)V" = some ⟨[(.array .int)], none⟩ := by decide +kernel
def pL27 {L : List Value} := @lenOf _ _ _ own_pd27 L
theorem own_pd28 : parseMethodDescriptor "(Ljava/math/MutableBigInteger;Ljava/math/MutableBigInteger;)Ljava/math/MutableBigInteger;" = some ⟨[(.object "java/math/MutableBigInteger"), (.object "java/math/MutableBigInteger")], some (.object "java/math/MutableBigInteger")⟩ := by decide +kernel
def pL28 {L : List Value} := @lenOf _ _ _ own_pd28 L
theorem own_pd29 : parseMethodDescriptor "(I)Ljava/math/BigInteger;" = some ⟨[.int], some (.object "java/math/BigInteger")⟩ := by decide +kernel
def pL29 {L : List Value} := @lenOf _ _ _ own_pd29 L
theorem ef31 (b0 b1 : Addr) (m : MethodId) : entryFrame m #[.ref b0, .ref b1] 7 = mkF m 0 #[.val (.ref b0), .val (.ref b1), .unset, .unset, .unset, .unset, .unset] [] := by first | (simp [entryFrame, mkF, argsToLocals, Value.category]; done) | rfl
abbrev mM31 (l : Launch) := own_Met l (⟨"java/math/BigInteger", "divideAndRemainderKnuth", "(Ljava/math/BigInteger;)[Ljava/math/BigInteger;"⟩ : MethodName) jdk_2097_method_64_code 7 (some (.array (.object "java/math/BigInteger")))
theorem ct51 (a1 a2 o2 o3 : Addr) (x0 x1 : Int32) (O_0 : Old Z n0 h0) (k : own_K Z a0 g) (E_0 : Ee0 Z h0 a1) (F0mag : Ff1 Z h0 a1 (.ref o2)) (F0signum : Ff0 Z h0 a1 (.int 1)) (E_1 : Ee0 Z h0 a2) (F1mag : Ff1 Z h0 a2 (.ref o3)) (F1signum : Ff0 Z h0 a2 (.int 1)) (A_2 : own_Ar Z h0 o2 .int [(.int x0), (.int x1)]) (A_3 : own_Ar Z h0 o3 .int [(.int 1000000000)]) (hH : H51 x0 x1 = true) :
 mM31 l ws (oR 5 10 25 84) #[(.ref a1), (.ref a2)] Z h0 fun v h L => ∃ (b264 : Addr) (u0316 : Addr) (u1316 : Addr), v = some (.ref b264) ∧ Fr n0 L ∧ Keep h0 h [] ∧ h0.size ≤ b264 ∧ h0.size ≤ u0316 ∧ h0.size ≤ u1316 ∧ u0316 ≠ b264 ∧ u1316 ≠ b264 ∧ u1316 ≠ u0316 ∧ own_Ra Z h b264 "java/math/BigInteger" [(.ref u0316), (.ref (g 0))] ∧ Ee0 Z h u0316 ∧ Ff8 Z h u0316 (.int 0) ∧ Ff1 Z h u0316 (.ref u1316) ∧ Ff0 Z h u0316 (.int 1) ∧ own_Ar Z h u1316 .int [(.int (D38_1 x0 x1))] := by
 refine o_body own_pn31 k.1 (ef31 _ _) ?_
 intro p e s m b _ c T0 X0 j e0
 obtain ⟨hx, hby, hml, hown, hnm, hret, hlk, hZ, hw⟩ := id j
 have N0 := Fr.nil n0
 have Z0 := own_Z0 O_0
 obtain ⟨hh0, q0⟩ := own_and hH
 refine o_iconstL X0 j (dc31 0 rfl) 2 ?_
 refine own_newR X0 hx hby (dc31 1 rfl).1 (pc' := 4) rfl hZ hown (ot k 139 rfl) (ot k 163 rfl) e0 (by decide) (cap := 2) (by decide) (by decide) (by decide) (by decide) rfl (vs := [.null, .null]) (by rfl) ?_
 intro T264 h264 b264 X264 e264 g264 E264 R264 C264
 have z264 := ntr (Nat.le_refl _) (nqs g264)
 have l264 := (ntr Z0 z264)
 refine o_astoreN X264 j (dc31 2 rfl) rfl (Ls' := #[sR a1, sR a2, sR b264, sU, sU, sU, sU]) rfl ?_
 refine o_new X264 j (dc31 3 rfl) 164 165 166 ⟨rfl, rfl, rfl⟩ e264 fun T265 h265 b265 X265 e265 g265 E265 A265 D265 => ?_
 have F265_offset : Ff10 Z h265 b265 (.int 0) := D265 (Or.inl (ot k 173 rfl)) (ty := .int) (by decide)
 have F265_value : Ff11 Z h265 b265 .null := D265 (Or.inl (ot k 175 rfl)) (ty := (.array .int)) (by decide)
 have F265_intLen : Ff9 Z h265 b265 (.int 0) := D265 (Or.inl (ot k 177 rfl)) (ty := .int) (by decide)
 have z265 := ntr E264.1 (nqs g265)
 have l265 := (ntr Z0 z265)
 refine o_dup X265 j (dc31 4 rfl) rfl ?_
 refine o_callSp X265 j (ct31 b265 (((O_0.ext E264).ext E265)) k A265 (F265_intLen) (F265_offset) (F265_value) l265) rfl rfl (pL3 rfl) (dc31 5 rfl) 167 168 170 166 ⟨rfl, rfl, rfl, rfl⟩ 1 e265 ?_
 rintro _ T266 L266 X266 ⟨u0266, rfl, M266, K266, P0266, P1266, P2266, P3266, P4266⟩
 have N266 := Fr.app N0 M266
 have l266_0 := (ntr Z0 (ntr (ntr (ntr z265 (Nat.le_of_eq g265)) E265.1) P0266))
 show oG p e b T266 m 12 #[sR a1, sR a2, sR b264, sU, sU, sU, sU] [(.ref b265)] _
 refine o_astoreN X266 j (dc31 6 rfl) rfl (Ls' := #[sR a1, sR a2, sR b264, sR b265, sU, sU, sU]) rfl ?_
 refine o_new X266 j (dc31 7 rfl) 164 165 166 ⟨rfl, rfl, rfl⟩ rfl fun T267 h267 b267 X267 e267 g267 E267 A267 D267 => ?_
 have F267_offset : Ff10 Z h267 b267 (.int 0) := D267 (Or.inl (ot k 173 rfl)) (ty := .int) (by decide)
 have F267_value : Ff11 Z h267 b267 .null := D267 (Or.inl (ot k 175 rfl)) (ty := (.array .int)) (by decide)
 have F267_intLen : Ff9 Z h267 b267 (.int 0) := D267 (Or.inl (ot k 177 rfl)) (ty := .int) (by decide)
 have z267 := ntr (ntr (ntr (ntr z265 (Nat.le_of_eq g265)) E265.1) K266.1) (nqs g267)
 have l267 := (ntr Z0 z267)
 refine o_dup X267 j (dc31 8 rfl) rfl ?_
 refine o_aloadN X267 j (dc31 9 rfl) rfl rfl ?_
 have d268 := (nne (nlt (nlt E_0.lt E264.1) (nqs g265)))
 have y269 := ((((F0mag.ext E264).ext E265).keep K266 (ninS d268 nin0)).ext E267)
 refine o_getF X267 j (dc31 10 rfl) 150 rfl e267 y269 fun T270 X270 e270 => ?_
 have y271 := ((((O_0.ext E264).ext E265).keep K266 (allS l265 all0)).ext E267)
 have d272 := (nne (nlt (nlt A_2.lt E264.1) (nqs g265)))
 have y273 := ((((A_2.ext E264).ext E265).keep K266 (ninS d272 nin0)).ext E267)
 have d274 := (nne (nlt (nlt (nlt (nlt A_2.lt E264.1) E265.1) K266.1) (nqs g267)))
 have d275 := (Ne.symm d274)
 refine o_callSp X270 j (ct32 b267 o2 x0 x1 y271 k A267 (F267_intLen) (F267_offset) (F267_value) l267 y273 d275) rfl rfl (pL27 rfl) (dc31 11 rfl) 178 179 180 166 ⟨rfl, rfl, rfl, rfl⟩ 1 e270 ?_
 rintro _ T276 L276 X276 ⟨rfl, M276, K276, P0276, P1276, P2276⟩
 have N276 := Fr.app N266 M276
 show oG p e b T276 m 24 #[sR a1, sR a2, sR b264, sR b265, sU, sU, sU] [(.ref b267)] _
 refine o_astore X276 j (dc31 12 rfl) rfl (Ls' := #[sR a1, sR a2, sR b264, sR b265, sR b267, sU, sU]) rfl ?_
 refine o_new X276 j (dc31 13 rfl) 164 165 166 ⟨rfl, rfl, rfl⟩ rfl fun T277 h277 b277 X277 e277 g277 E277 A277 D277 => ?_
 have F277_offset : Ff10 Z h277 b277 (.int 0) := D277 (Or.inl (ot k 173 rfl)) (ty := .int) (by decide)
 have F277_value : Ff11 Z h277 b277 .null := D277 (Or.inl (ot k 175 rfl)) (ty := (.array .int)) (by decide)
 have F277_intLen : Ff9 Z h277 b277 (.int 0) := D277 (Or.inl (ot k 177 rfl)) (ty := .int) (by decide)
 have z277 := ntr (ntr (ntr (ntr z267 (Nat.le_of_eq g267)) E267.1) K276.1) (nqs g277)
 have l277 := (ntr Z0 z277)
 refine o_dup X277 j (dc31 14 rfl) rfl ?_
 refine o_aloadN X277 j (dc31 15 rfl) rfl rfl ?_
 have d278 := (nne (nlt (nlt E_1.lt E264.1) (nqs g265)))
 have d279 := (nne (nlt (nlt (nlt (nlt E_1.lt E264.1) E265.1) K266.1) (nqs g267)))
 have y280 := ((((((F1mag.ext E264).ext E265).keep K266 (ninS d278 nin0)).ext E267).keep K276 (ninS d279 nin0)).ext E277)
 refine o_getF X277 j (dc31 16 rfl) 150 rfl e277 y280 fun T281 X281 e281 => ?_
 have d282 := (nne (nlt (nlt A_3.lt E264.1) (nqs g265)))
 have d283 := (nne (nlt (nlt (nlt (nlt A_3.lt E264.1) E265.1) K266.1) (nqs g267)))
 have y284 := ((((((A_3.ext E264).ext E265).keep K266 (ninS d282 nin0)).ext E267).keep K276 (ninS d283 nin0)).ext E277)
 have d285 := (nne (nlt (nlt (nlt (nlt (nlt (nlt A_3.lt E264.1) E265.1) K266.1) E267.1) K276.1) (nqs g277)))
 have d286 := (Ne.symm d285)
 refine o_callSp X281 j (ct33 b277 o3 (((y271.keep K276 (allS l267 all0)).ext E277)) k A277 (F277_intLen) (F277_offset) (F277_value) l277 y284 d286) rfl rfl (pL27 rfl) (dc31 17 rfl) 178 179 180 166 ⟨rfl, rfl, rfl, rfl⟩ 1 e281 ?_
 rintro _ T287 L287 X287 ⟨rfl, M287, K287, P0287, P1287, P2287⟩
 have N287 := Fr.app N276 M287
 show oG p e b T287 m 37 #[sR a1, sR a2, sR b264, sR b265, sR b267, sU, sU] [(.ref b277)] _
 refine o_astore X287 j (dc31 18 rfl) rfl (Ls' := #[sR a1, sR a2, sR b264, sR b265, sR b267, sR b277, sU]) rfl ?_
 refine o_aload X287 j (dc31 19 rfl) rfl rfl ?_
 refine o_aload X287 j (dc31 20 rfl) rfl rfl ?_
 refine o_aloadN X287 j (dc31 21 rfl) rfl rfl ?_
 have y288 := (((y271.keep K276 (allS l267 all0)).ext E277).keep K287 (allS l277 all0))
 have d289 := (nne (nlt (nlt A267.lt K276.1) (nqs g277)))
 have y290 := (((((A265.keep K266).ext E267).keep K276).ext E277).keep K287)
 have d291 := (nne (nlt (nlt A265.lt K266.1) (nqs g267)))
 have d292 := (nne (nlt (nlt (nlt (nlt A265.lt K266.1) E267.1) K276.1) (nqs g277)))
 have y293 := ((((P2266.ext E267).keep K276 (ninS d291 nin0)).ext E277).keep K287 (ninS d292 nin0))
 have y294 := ((((P3266.ext E267).keep K276 (ninS d291 nin0)).ext E277).keep K287 (ninS d292 nin0))
 have y295 := ((((P4266.ext E267).keep K276 (ninS d291 nin0)).ext E277).keep K287 (ninS d292 nin0))
 have d296 := (nne (nlt (nlt (nlt (nlt (nlt (nlt A_2.lt E264.1) E265.1) K266.1) E267.1) K276.1) (nqs g277)))
 have y297 := (((y273.keep K276 (ninS d274 nin0)).ext E277).keep K287 (ninS d296 nin0))
 have d298 := (nne (nlt P1266.lt (nqs g267)))
 have d299 := (nne (nlt (nlt (nlt P1266.lt E267.1) K276.1) (nqs g277)))
 have y300 := ((((P1266.ext E267).keep K276 (ninS d298 nin0)).ext E277).keep K287 (ninS d299 nin0))
 have d301 := (nne (nlt A265.lt P0266))
 have d302 := (nne (nlt (nlt (nlt A_2.lt E264.1) E265.1) P0266))
 have d303 := (nne (nlt (nlt (nlt A_3.lt E264.1) E265.1) P0266))
 refine o_callV X287 j (ct40 b267 b277 b265 o2 o3 u0266 x0 x1 y288 k ((((A267.keep K276).ext E277).keep K287)) (((P0276.ext E277).keep K287 (ninS d289 nin0))) (((P1276.ext E277).keep K287 (ninS d289 nin0))) (((P2276.ext E277).keep K287 (ninS d289 nin0))) ((A277.keep K287)) P0287 P1287 P2287 y290 y293 y294 y295 l265 y297 ((y284.keep K287 (ninS d285 nin0))) y300 l266_0 (Ne.symm d291) (Ne.symm d298) (Ne.symm d292) (Ne.symm d299) (Ne.symm d272) (Ne.symm d282) d301 d302 d303 hh0) rfl rfl (pL28 rfl) (dc31 22 rfl) 181 182 184 183 185 166 ⟨rfl, rfl, rfl, rfl, rfl, rfl⟩ (((A267.keep K276).ext E277).keep K287) 0 rfl ?_
 rintro _ T304 L304 X304 ⟨u0304, u1304, u2304, rfl, M304, K304, P0304, P1304, P2304, P3304, P4304, P5304, P6304, P7304, P8304, P9304, P10304, P11304, P12304, P13304, P14304, P15304⟩
 have N304 := Fr.app N287 M304
 have l304_0 := (ntr Z0 (ntr (ntr (ntr (ntr z277 (Nat.le_of_eq g277)) E277.1) K287.1) P0304))
 have l304_1 := (ntr Z0 (ntr (ntr (ntr (ntr z277 (Nat.le_of_eq g277)) E277.1) K287.1) P1304))
 have l304_2 := (ntr Z0 (ntr (ntr (ntr (ntr z277 (Nat.le_of_eq g277)) E277.1) K287.1) P2304))
 show oG p e b T304 m 47 #[sR a1, sR a2, sR b264, sR b265, sR b267, sR b277, sU] [(.ref u0304)] _
 refine o_astore X304 j (dc31 23 rfl) rfl (Ls' := #[sR a1, sR a2, sR b264, sR b265, sR b267, sR b277, sR u0304]) rfl ?_
 refine o_aloadN X304 j (dc31 24 rfl) rfl rfl ?_
 refine o_iconstL X304 j (dc31 25 rfl) 0 ?_
 refine o_aloadN X304 j (dc31 26 rfl) rfl rfl ?_
 refine o_aloadN X304 j (dc31 27 rfl) rfl rfl ?_
 have d305 := (nne (nlt (nlt (nlt (nlt E_0.lt E264.1) E265.1) K266.1) (nqs g267)))
 have d306 := (nne (nlt (nlt (nlt (nlt (nlt (nlt E_0.lt E264.1) E265.1) K266.1) E267.1) K276.1) (nqs g277)))
 have d307 := (nne (nlt (nlt (nlt E_0.lt E264.1) E265.1) P0266))
 have y308 := ((((((((F0signum.ext E264).ext E265).keep K266 (ninS d268 nin0)).ext E267).keep K276 (ninS d305 nin0)).ext E277).keep K287 (ninS d306 nin0)).keep K304 (ninS d268 (ninS d307 nin0)))
 refine o_getF X304 j (dc31 28 rfl) 147 rfl rfl y308 fun T309 X309 e309 => ?_
 refine o_aloadN X309 j (dc31 29 rfl) rfl rfl ?_
 have d310 := (nne (nlt (nlt (nlt (nlt (nlt (nlt E_1.lt E264.1) E265.1) K266.1) E267.1) K276.1) (nqs g277)))
 have d311 := (nne (nlt (nlt (nlt E_1.lt E264.1) E265.1) P0266))
 have y312 := ((((((((F1signum.ext E264).ext E265).keep K266 (ninS d278 nin0)).ext E267).keep K276 (ninS d279 nin0)).ext E277).keep K287 (ninS d310 nin0)).keep K304 (ninS d278 (ninS d311 nin0)))
 refine o_getF X309 j (dc31 30 rfl) 147 rfl e309 y312 fun T313 X313 e313 => ?_
 refine o_icmpNoD X313 j (dc31 31 rfl) ?_
 refine o_iconstL X313 j (dc31 32 rfl) 1 ?_
 refine o_goto X313 j (dc31 33 rfl) 68 ?_
 have y314 := (y288.keep K304 (allS l265 (allS l266_0 all0)))
 have d315 := (nne (nlt (nlt (nlt (nlt (nlt (nlt A265.lt K266.1) E267.1) K276.1) E277.1) K287.1) P2304))
 refine o_callV X313 j (ct49 b265 u2304 (D38_1 x0 x1) y314 k ((y290.keep K304)) P12304 P13304 P14304 l265 P11304 l304_2 d315) rfl rfl (pL29 rfl) (dc31 34 rfl) 219 220 222 221 223 166 ⟨rfl, rfl, rfl, rfl, rfl, rfl⟩ (y290.keep K304) 2 e313 ?_
 rintro _ T316 L316 X316 ⟨u0316, u1316, rfl, M316, K316, P0316, P1316, P2316, P3316, P4316, P5316, P6316, P7316, P8316, P9316, P10316, P11316⟩
 have N316 := Fr.app N304 M316
 have l316_0 := (ntr Z0 (ntr (ntr (ntr (ntr (ntr z277 (Nat.le_of_eq g277)) E277.1) K287.1) K304.1) P0316))
 have l316_1 := (ntr Z0 (ntr (ntr (ntr (ntr (ntr z277 (Nat.le_of_eq g277)) E277.1) K287.1) K304.1) P1316))
 show oG p e b T316 m 71 #[sR a1, sR a2, sR b264, sR b265, sR b267, sR b277, sR u0304] [(.ref u0316), (.int 0), (.ref b264)] _
 have d318 := (nne (nlt R264.lt (nqs g265)))
 have d319 := (nne (nlt (nlt (nlt R264.lt E265.1) K266.1) (nqs g267)))
 have d320 := (nne (nlt (nlt (nlt (nlt (nlt R264.lt E265.1) K266.1) E267.1) K276.1) (nqs g277)))
 have d321 := (nne (nlt (nlt R264.lt E265.1) P0266))
 have d322 := (nne (nlt (nlt (nlt (nlt (nlt (nlt (nlt R264.lt E265.1) K266.1) E267.1) K276.1) E277.1) K287.1) P2304))
 have y323 := ((((((((R264.ext E265).keep K266 (ninS d318 nin0)).ext E267).keep K276 (ninS d319 nin0)).ext E277).keep K287 (ninS d320 nin0)).keep K304 (ninS d318 (ninS d321 nin0))).keep K316 (ninS d318 (ninS d322 nin0)))
 refine own_aastore X316 hx hby (dc31 35 rfl).1 (pc' := 72) rfl hZ rfl y323 (by decide) (w := .null) rfl (Or.inr ⟨_, rfl, (Ins.self P3316)⟩) ?_
 intro T317 h317 X317 e317 W317 R317
 have B317 : own_Ra Z h317 b264 "java/math/BigInteger" [(.ref u0316), .null] := R317
 have N317 := Fr.snoc X317 N316 l264
 refine o_aloadN X317 j (dc31 36 rfl) rfl rfl ?_
 refine o_iconstL X317 j (dc31 37 rfl) 1 ?_
 refine o_aload X317 j (dc31 38 rfl) rfl rfl ?_
 refine o_aloadN X317 j (dc31 39 rfl) rfl rfl ?_
 have d324 := (nne (nlt (nlt (nlt (nlt (nlt (nlt (nlt (nlt E_0.lt E264.1) E265.1) K266.1) E267.1) K276.1) E277.1) K287.1) P2304))
 have d325 := (nne (nlt E_0.lt (nqs g264)))
 have y326 := ((y308.keep K316 (ninS d268 (ninS d324 nin0))).other W317 (Or.inl d325))
 refine o_getF X317 j (dc31 40 rfl) 147 rfl e317 y326 fun T327 X327 e327 => ?_
 have y328 := ((y314.keep K316 (allS l265 (allS l304_2 all0))).wr W317 l264)
 have d329 := (nne (nlt (nlt (nlt (nlt (nlt (nlt A265.lt K266.1) E267.1) K276.1) E277.1) K287.1) P0304))
 have d330 := (Ne.symm d329)
 have d331 := (nne (nlt (nlt (nlt (nlt (nlt (nlt (nlt R264.lt E265.1) K266.1) E267.1) K276.1) E277.1) K287.1) P0304))
 have d332 := (Ne.symm d331)
 have y333 := ((P7304.keep K316 (ninS d330 (ninS (Ne.symm P4304) nin0))).other W317 (Or.inl d332))
 refine o_callV X327 j (ct50 u0304 y328 k (((P6304.keep K316).wr W317)) y333) rfl rfl (pL29 rfl) (dc31 41 rfl) 219 220 222 221 223 166 ⟨rfl, rfl, rfl, rfl, rfl, rfl⟩ ((P6304.keep K316).wr W317) 2 e327 ?_
 rintro _ T334 L334 X334 ⟨rfl, M334, e334⟩
 have N334 := Fr.app N317 M334
 show oG p e b T334 m 83 #[sR a1, sR a2, sR b264, sR b265, sR b267, sR b277, sR u0304] [(.ref (g 0)), (.int 1), (.ref b264)] _
 refine own_aastore X334 hx hby (dc31 42 rfl).1 (pc' := 84) rfl hZ e334 B317 (by decide) (w := .null) rfl (Or.inr ⟨_, rfl, (Ins.self ((k7 k).ext y328.2))⟩) ?_
 intro T335 h335 X335 e335 W335 R335
 have B335 : own_Ra Z h335 b264 "java/math/BigInteger" [(.ref u0316), (.ref (g 0))] := R335
 have N335 := Fr.snoc X335 N334 l264
 refine o_aloadN X335 j (dc31 43 rfl) rfl rfl ?_
 have d336 := (nne (nlt (nlt (nlt (nlt (nlt (nlt (nlt (nlt R264.lt E265.1) K266.1) E267.1) K276.1) E277.1) K287.1) K304.1) P0316))
 have d337 := (Ne.symm d336)
 have d338 := (nne (nlt (nlt (nlt (nlt (nlt (nlt (nlt (nlt R264.lt E265.1) K266.1) E267.1) K276.1) E277.1) K287.1) K304.1) P1316))
 have d339 := (Ne.symm d338)
 have y340 := ((P4316.other W317 (Or.inl d337)).other W335 (Or.inl d337))
 have y341 := ((P5316.other W317 (Or.inl d337)).other W335 (Or.inl d337))
 have y342 := ((P6316.other W317 (Or.inl d337)).other W335 (Or.inl d337))
 exact o_retA X335 j (dc31 44 rfl) e335 ⟨b264, u0316, u1316, rfl, N335, ((((((((((((Keep.refl h0 []).ext E264).ext E265).trans K266 (allS (Or.inr z265) all0)).ext E267).trans K276 (allS (Or.inr z267) all0)).ext E277).trans K287 (allS (Or.inr z277) all0)).trans K304 (allS (Or.inr z265) (allS (Or.inr (ntr (ntr (ntr z265 (Nat.le_of_eq g265)) E265.1) P0266)) all0))).trans K316 (allS (Or.inr z265) (allS (Or.inr (ntr (ntr (ntr (ntr z277 (Nat.le_of_eq g277)) E277.1) K287.1) P2304)) all0))).wr W317 (Or.inr z264)).wr W335 (Or.inr z264)), z264, (ntr (ntr (ntr (ntr (ntr z277 (Nat.le_of_eq g277)) E277.1) K287.1) K304.1) P0316), (ntr (ntr (ntr (ntr (ntr z277 (Nat.le_of_eq g277)) E277.1) K287.1) K304.1) P1316), d337, d339, P2316, B335, ((P3316.wr W317).wr W335), y340, y341, y342, ((P7316.other W317 d339).other W335 d339)⟩
def H52 (x0 : Int32) (x1 : Int32) : Bool := (H51 x0 x1) && true
theorem own_pn30 : plainFor (⟨"java/math/BigInteger", "divideAndRemainder", "(Ljava/math/BigInteger;)[Ljava/math/BigInteger;"⟩ : MethodName) = true := plainFor_of_name (by first | (simp [plainName, overriddenIn]; done) | decide +kernel)
theorem own_pd30 : parseMethodDescriptor "(Ljava/math/BigInteger;)[Ljava/math/BigInteger;" = some ⟨[(.object "java/math/BigInteger")], some (.array (.object "java/math/BigInteger"))⟩ := by decide +kernel
def pL30 {L : List Value} := @lenOf _ _ _ own_pd30 L
abbrev mM30 (l : Launch) := own_Met l (⟨"java/math/BigInteger", "divideAndRemainder", "(Ljava/math/BigInteger;)[Ljava/math/BigInteger;"⟩ : MethodName) jdk_2097_method_63_code 2 (some (.array (.object "java/math/BigInteger")))
theorem ct52 (a1 a2 o2 o3 : Addr) (x0 x1 : Int32) (O_0 : Old Z n0 h0) (k : own_K Z a0 g) (E_0 : Ee0 Z h0 a1) (F0mag : Ff1 Z h0 a1 (.ref o2)) (F0signum : Ff0 Z h0 a1 (.int 1)) (E_1 : Ee0 Z h0 a2) (F1mag : Ff1 Z h0 a2 (.ref o3)) (F1signum : Ff0 Z h0 a2 (.int 1)) (A_2 : own_Ar Z h0 o2 .int [(.int x0), (.int x1)]) (A_3 : own_Ar Z h0 o3 .int [(.int 1000000000)]) (hH : H52 x0 x1 = true) :
 mM30 l ws (oR 6 10 25 102) #[(.ref a1), (.ref a2)] Z h0 fun v h L => ∃ (u0344 : Addr) (u1344 : Addr) (u2344 : Addr), v = some (.ref u0344) ∧ Fr n0 L ∧ Keep h0 h [] ∧ h0.size ≤ u0344 ∧ h0.size ≤ u1344 ∧ h0.size ≤ u2344 ∧ u1344 ≠ u0344 ∧ u2344 ≠ u0344 ∧ u2344 ≠ u1344 ∧ own_Ra Z h u0344 "java/math/BigInteger" [(.ref u1344), (.ref (g 0))] ∧ Ee0 Z h u1344 ∧ Ff8 Z h u1344 (.int 0) ∧ Ff1 Z h u1344 (.ref u2344) ∧ Ff0 Z h u1344 (.int 1) ∧ own_Ar Z h u2344 .int [(.int (D38_1 x0 x1))] := by
 refine o_body own_pn30 k.1 (ef12 _ _) ?_
 intro p e s m b _ c T0 X0 j e0
 have N0 := Fr.nil n0
 have Z0 := own_Z0 O_0
 obtain ⟨hh0, q0⟩ := own_and hH
 refine o_aloadN X0 j (dc30 0 rfl) rfl rfl ?_
 refine o_getF X0 j (dc30 1 rfl) 150 rfl e0 F1mag fun T343 X343 e343 => ?_
 refine o_len X343 j (dc30 2 rfl) e343 A_3 1 ?_
 refine o_bipushL X343 j (dc30 3 rfl) 80 ?_
 refine o_icmpYesD X343 j (dc30 4 rfl) 26 ?_
 refine o_aloadN X343 j (dc30 5 rfl) rfl rfl ?_
 refine o_aloadN X343 j (dc30 6 rfl) rfl rfl ?_
 refine o_callPv X343 j (ct51 a1 a2 o2 o3 x0 x1 O_0 k E_0 (F0mag) (F0signum) E_1 (F1mag) (F1signum) A_2 A_3 hh0) rfl rfl (pL30 rfl) (dc30 7 rfl) 158 160 161 159 162 136 ⟨rfl, rfl, rfl, rfl, rfl, rfl⟩ E_0 0 e343 ?_
 rintro _ T344 L344 X344 ⟨u0344, u1344, u2344, rfl, M344, K344, P0344, P1344, P2344, P3344, P4344, P5344, P6344, P7344, P8344, P9344, P10344, P11344⟩
 have N344 := Fr.app N0 M344
 have l344_0 := (ntr Z0 P0344)
 have l344_1 := (ntr Z0 P1344)
 have l344_2 := (ntr Z0 P2344)
 show oG p e b T344 m 31 #[sR a1, sR a2] [(.ref u0344)] _
 exact o_retA X344 j (dc30 8 rfl) rfl ⟨u0344, u1344, u2344, rfl, N344, ((Keep.refl h0 []).trans K344 all0), P0344, P1344, P2344, P3344, P4344, P5344, P6344, P7344, P8344, P9344, P10344, P11344⟩
theorem own_pn50 : plainFor (⟨"java/math/BigInteger", "bitLengthForInt", "(I)I"⟩ : MethodName) = true := plainFor_of_name (by first | (simp [plainName, overriddenIn]; done) | decide +kernel)
abbrev mM50 (l : Launch) := own_Met l (⟨"java/math/BigInteger", "bitLengthForInt", "(I)I"⟩ : MethodName) jdk_2097_method_74_code 1 (some .int)
theorem ct53 (x0 : Int32) (O_0 : Old Z n0 h0) (k : own_K Z a0 g) :
 mM50 l ws (oR 1 0 0 14) #[(.int x0)] Z h0 fun v h L => v = some (.int ((32 : Int32) - (own_nlz x0))) ∧ Fr n0 L ∧ h = h0 := by
 refine o_body own_pn50 k.1 (ef2 _) ?_
 intro p e s m b _ c T0 X0 j e0
 have N0 := Fr.nil n0
 have Z0 := own_Z0 O_0
 refine o_bipushL X0 j (dc50 0 rfl) 32 ?_
 refine o_iloadN X0 j (dc50 1 rfl) rfl ?_
 refine o_callS X0 j (rm_nlz (n0 := n0) k.1 x0) rfl rfl (pL18 rfl) (dc50 2 rfl) 265 208 209 210 ⟨rfl, rfl, rfl, rfl⟩ 1 e0 ?_
 rintro _ T345 L345 X345 ⟨rfl, M345, e345⟩
 have N345 := Fr.app N0 M345
 show oG p e b T345 m 6 #[sI x0] [(.int (own_nlz x0)), (.int 32)] _
 refine o_isub X345 j (dc50 3 rfl) ?_
 exact o_retI X345 j (dc50 4 rfl) rfl ⟨rfl, N345, e345⟩
def D54_0 (x0 : Int32) : Int32 := ((0 : Int32) + ((32 : Int32) - (own_nlz x0)))
theorem own_pn49 : plainFor (⟨"java/math/BigInteger", "bitLength", "()I"⟩ : MethodName) = true := plainFor_of_name (by first | (simp [plainName, overriddenIn]; done) | decide +kernel)
theorem ef32 (b0 : Addr) (m : MethodId) : entryFrame m #[.ref b0] 7 = mkF m 0 #[.val (.ref b0), .unset, .unset, .unset, .unset, .unset, .unset] [] := by first | (simp [entryFrame, mkF, argsToLocals, Value.category]; done) | rfl
abbrev mM49 (l : Launch) := own_Met l (⟨"java/math/BigInteger", "bitLength", "()I"⟩ : MethodName) jdk_2097_method_118_code 7 (some .int)
def sn22 (k : own_K Z a0 g) := slot_ne (Or.inr (ot k 151 rfl)) (Or.inl (ot k 261 rfl)) (by decide) (t := (.array .int)) (t' := .int) (by decide) (by decide)
def sn23 (k : own_K Z a0 g) := slot_ne (Or.inr (ot k 148 rfl)) (Or.inl (ot k 261 rfl)) (by decide) (t := .int) (t' := .int) (by decide) (by decide)
theorem ct54 (a1 o1 : Addr) (x0 : Int32) (O_0 : Old Z n0 h0) (k : own_K Z a0 g) (E_0 : Ee0 Z h0 a1) (F0bitLengthPlusOne : Ff8 Z h0 a1 (.int 0)) (F0mag : Ff1 Z h0 a1 (.ref o1)) (F0signum : Ff0 Z h0 a1 (.int 1)) (G_0 : n0 ≤ a1) (A_1 : own_Ar Z h0 o1 .int [(.int x0)]) :
 mM49 l ws (oR 2 0 0 27) #[(.ref a1)] Z h0 fun v h L => v = some (.int (D54_0 x0)) ∧ Fr n0 L ∧ Keep h0 h [a1] ∧ Ff8 Z h a1 (.int ((D54_0 x0) + (1 : Int32))) ∧ Ff1 Z h a1 (.ref o1) ∧ Ff0 Z h a1 (.int 1) := by
 refine o_body own_pn49 k.1 (ef32 _) ?_
 intro p e s m b _ c T0 X0 j e0
 have N0 := Fr.nil n0
 have Z0 := own_Z0 O_0
 refine o_aloadN X0 j (dc49 0 rfl) rfl rfl ?_
 refine o_getF X0 j (dc49 1 rfl) 260 rfl e0 F0bitLengthPlusOne fun T346 X346 e346 => ?_
 refine o_iconstL X346 j (dc49 2 rfl) 1 ?_
 refine o_isubL X346 j (dc49 3 rfl) (-1) ?_
 refine o_istoreN X346 j (dc49 4 rfl) (Ls' := #[sR a1, sI (-1), sU, sU, sU, sU, sU]) rfl ?_
 refine o_iloadN X346 j (dc49 5 rfl) rfl ?_
 refine o_iconstL X346 j (dc49 6 rfl) (-1) ?_
 refine o_icmpNoD X346 j (dc49 7 rfl) ?_
 refine o_aloadN X346 j (dc49 8 rfl) rfl rfl ?_
 refine o_getF X346 j (dc49 9 rfl) 150 rfl e346 F0mag fun T347 X347 e347 => ?_
 refine o_astoreN X347 j (dc49 10 rfl) rfl (Ls' := #[sR a1, sI (-1), sR o1, sU, sU, sU, sU]) rfl ?_
 refine o_aloadN X347 j (dc49 11 rfl) rfl rfl ?_
 refine o_len X347 j (dc49 12 rfl) e347 A_1 1 ?_
 refine o_istoreN X347 j (dc49 13 rfl) (Ls' := #[sR a1, sI (-1), sR o1, sI 1, sU, sU, sU]) rfl ?_
 refine o_iloadN X347 j (dc49 14 rfl) rfl ?_
 refine o_ifYesD X347 j (dc49 15 rfl) 29 ?_
 refine o_iloadN X347 j (dc49 16 rfl) rfl ?_
 refine o_iconstL X347 j (dc49 17 rfl) 1 ?_
 refine o_isubL X347 j (dc49 18 rfl) 0 ?_
 refine o_iconstL X347 j (dc49 19 rfl) 5 ?_
 refine o_ishlL X347 j (dc49 20 rfl) 0 ?_
 refine o_aloadN X347 j (dc49 21 rfl) rfl rfl ?_
 refine o_getF X347 j (dc49 22 rfl) 150 rfl e347 F0mag fun T348 X348 e348 => ?_
 refine o_iconstL X348 j (dc49 23 rfl) 0 ?_
 refine o_iaload X348 j (dc49 24 rfl) e348 A_1 (.int x0) ?_
 refine o_callS X348 j (ct53 x0 O_0 k) rfl rfl (pL18 rfl) (dc49 25 rfl) 262 263 136 264 ⟨rfl, rfl, rfl, rfl⟩ 1 e348 ?_
 rintro _ T349 L349 X349 ⟨rfl, M349, e349⟩
 have N349 := Fr.app N0 M349
 show oG p e b T349 m 43 #[sR a1, sI (-1), sR o1, sI 1, sU, sU, sU] [(.int ((32 : Int32) - (own_nlz x0))), (.int 0)] _
 refine o_iadd X349 j (dc49 26 rfl) ?_
 refine o_istore X349 j (dc49 27 rfl) (Ls' := #[sR a1, sI (-1), sR o1, sI 1, sI (D54_0 x0), sU, sU]) rfl ?_
 refine o_aloadN X349 j (dc49 28 rfl) rfl rfl ?_
 refine o_getF X349 j (dc49 29 rfl) 147 rfl e349 F0signum fun T350 X350 e350 => ?_
 refine o_ifYesD X350 j (dc49 30 rfl) 128 ?_
 refine o_iload X350 j (dc49 31 rfl) rfl ?_
 refine o_istoreN X350 j (dc49 32 rfl) (Ls' := #[sR a1, sI (D54_0 x0), sR o1, sI 1, sI (D54_0 x0), sU, sU]) rfl ?_
 refine o_aloadN X350 j (dc49 33 rfl) rfl rfl ?_
 refine o_iloadN X350 j (dc49 34 rfl) rfl ?_
 refine o_iconstL X350 j (dc49 35 rfl) 1 ?_
 refine o_iadd X350 j (dc49 36 rfl) ?_
 refine o_put X350 j (dc49 37 rfl) 260 261 140 ⟨rfl, rfl, rfl⟩ .int e350 F0bitLengthPlusOne E_0 fun T351 h351 X351 e351 W351 => ?_
 have F351 := (F0bitLengthPlusOne).same W351
 have N351 := Fr.snoc X351 N349 G_0
 refine o_iloadN X351 j (dc49 38 rfl) rfl ?_
 have y352 := (F0mag.other W351 (Or.inr (sn22 k)))
 have y353 := (F0signum.other W351 (Or.inr (sn23 k)))
 exact o_retI X351 j (dc49 39 rfl) e351 ⟨rfl, N351, ((Keep.refl h0 [a1]).wr W351 (mI 0 rfl)), F351, y352, y353⟩
def H55 (x0 : Int32) : Bool := decide (¬ x0 < (0 : Int32)) && true
theorem own_pn53 : plainFor (⟨"java/math/BigInteger", "signInt", "()I"⟩ : MethodName) = true := plainFor_of_name (by first | (simp [plainName, overriddenIn]; done) | decide +kernel)
abbrev mM53 (l : Launch) := own_Met l (⟨"java/math/BigInteger", "signInt", "()I"⟩ : MethodName) jdk_2097_method_147_code 1 (some .int)
theorem ct55 (a1 : Addr) (x0 : Int32) (O_0 : Old Z n0 h0) (k : own_K Z a0 g) (E_0 : Ee0 Z h0 a1) (F0signum : Ff0 Z h0 a1 (.int x0)) (hH : H55 x0 = true) :
 mM53 l ws (oR 0 0 0 0) #[(.ref a1)] Z h0 fun v h L => v = some (.int 0) ∧ Fr n0 L ∧ h = h0 := by
 refine o_body own_pn53 k.1 (ef8 _) ?_
 intro p e s m b _ c T0 X0 j e0
 have N0 := Fr.nil n0
 have Z0 := own_Z0 O_0
 obtain ⟨hh0, q0⟩ := o_ad hH
 refine o_aloadN X0 j (dc53 0 rfl) rfl rfl ?_
 refine o_getF X0 j (dc53 1 rfl) 147 rfl e0 F0signum fun T354 X354 e354 => ?_
 refine o_ifYes X354 j (dc53 2 rfl) 11 (flt hh0).2.1 ?_
 refine o_iconstL X354 j (dc53 3 rfl) 0 ?_
 exact o_retI X354 j (dc53 4 rfl) rfl ⟨rfl, N0, e354⟩
theorem own_pn52 : plainFor (⟨"java/math/BigInteger", "getInt", "(I)I"⟩ : MethodName) = true := plainFor_of_name (by first | (simp [plainName, overriddenIn]; done) | decide +kernel)
theorem own_pd31 : parseMethodDescriptor "()I" = some ⟨[], some .int⟩ := by decide +kernel
def pL31 {L : List Value} := @lenOf _ _ _ own_pd31 L
theorem ef33 (b0 : Addr) (b1 : Int32) (m : MethodId) : entryFrame m #[.ref b0, .int b1] 3 = mkF m 0 #[.val (.ref b0), .val (.int b1), .unset] [] := by first | (simp [entryFrame, mkF, argsToLocals, Value.category]; done) | rfl
abbrev mM52 (l : Launch) := own_Met l (⟨"java/math/BigInteger", "getInt", "(I)I"⟩ : MethodName) jdk_2097_method_148_code 3 (some .int)
theorem ct56 (a1 o1 : Addr) (x0 : Int32) (O_0 : Old Z n0 h0) (k : own_K Z a0 g) (E_0 : Ee0 Z h0 a1) (F0mag : Ff1 Z h0 a1 (.ref o1)) (F0signum : Ff0 Z h0 a1 (.int 1)) (A_1 : own_Ar Z h0 o1 .int [(.int x0)]) :
 mM52 l ws (oR 1 0 0 12) #[(.ref a1), (.int 1)] Z h0 fun v h L => v = some (.int 0) ∧ Fr n0 L ∧ h = h0 := by
 refine o_body own_pn52 k.1 (ef33 _ _) ?_
 intro p e s m b _ c T0 X0 j e0
 have N0 := Fr.nil n0
 have Z0 := own_Z0 O_0
 refine o_iloadN X0 j (dc52 0 rfl) rfl ?_
 refine o_ifYesD X0 j (dc52 1 rfl) 6 ?_
 refine o_iloadN X0 j (dc52 2 rfl) rfl ?_
 refine o_aloadN X0 j (dc52 3 rfl) rfl rfl ?_
 refine o_getF X0 j (dc52 4 rfl) 150 rfl e0 F0mag fun T355 X355 e355 => ?_
 refine o_len X355 j (dc52 5 rfl) e355 A_1 1 ?_
 refine o_icmpNoD X355 j (dc52 6 rfl) ?_
 refine o_aloadN X355 j (dc52 7 rfl) rfl rfl ?_
 refine o_callPv X355 j (ct55 a1 (1 : Int32) O_0 k E_0 (F0signum) (by decide)) rfl rfl (pL31 rfl) (dc52 8 rfl) 276 278 279 277 280 136 ⟨rfl, rfl, rfl, rfl, rfl, rfl⟩ E_0 0 e355 ?_
 rintro _ T356 L356 X356 ⟨rfl, M356, e356⟩
 have N356 := Fr.app N0 M356
 show oG p e b T356 m 19 #[sR a1, sI 1, sU] [(.int 0)] _
 exact o_retI X356 j (dc52 9 rfl) rfl ⟨rfl, N356, e356⟩
theorem ct57 (a1 o1 : Addr) (x0 : Int32) (O_0 : Old Z n0 h0) (k : own_K Z a0 g) (E_0 : Ee0 Z h0 a1) (F0mag : Ff1 Z h0 a1 (.ref o1)) (F0signum : Ff0 Z h0 a1 (.int 1)) (A_1 : own_Ar Z h0 o1 .int [(.int x0)]) :
 mM52 l ws (oR 0 0 0 0) #[(.ref a1), (.int 0)] Z h0 fun v h L => v = some (.int x0) ∧ Fr n0 L ∧ h = h0 := by
 refine o_body own_pn52 k.1 (ef33 _ _) ?_
 intro p e s m b _ c T0 X0 j e0
 have N0 := Fr.nil n0
 have Z0 := own_Z0 O_0
 refine o_iloadN X0 j (dc52 0 rfl) rfl ?_
 refine o_ifYesD X0 j (dc52 1 rfl) 6 ?_
 refine o_iloadN X0 j (dc52 2 rfl) rfl ?_
 refine o_aloadN X0 j (dc52 3 rfl) rfl rfl ?_
 refine o_getF X0 j (dc52 4 rfl) 150 rfl e0 F0mag fun T357 X357 e357 => ?_
 refine o_len X357 j (dc52 5 rfl) e357 A_1 1 ?_
 refine o_icmpYesD X357 j (dc52 6 rfl) 20 ?_
 refine o_aloadN X357 j (dc52 10 rfl) rfl rfl ?_
 refine o_getF X357 j (dc52 11 rfl) 150 rfl e357 F0mag fun T358 X358 e358 => ?_
 refine o_aloadN X358 j (dc52 12 rfl) rfl rfl ?_
 refine o_getF X358 j (dc52 13 rfl) 150 rfl e358 F0mag fun T359 X359 e359 => ?_
 refine o_len X359 j (dc52 14 rfl) e359 A_1 1 ?_
 refine o_iloadN X359 j (dc52 15 rfl) rfl ?_
 refine o_isubL X359 j (dc52 16 rfl) 1 ?_
 refine o_iconstL X359 j (dc52 17 rfl) 1 ?_
 refine o_isubL X359 j (dc52 18 rfl) 0 ?_
 refine o_iaload X359 j (dc52 19 rfl) e359 A_1 (.int x0) ?_
 refine o_istoreN X359 j (dc52 20 rfl) (Ls' := #[sR a1, sI 0, sI x0]) rfl ?_
 refine o_aloadN X359 j (dc52 21 rfl) rfl rfl ?_
 refine o_getF X359 j (dc52 22 rfl) 147 rfl e359 F0signum fun T360 X360 e360 => ?_
 refine o_ifNoD X360 j (dc52 23 rfl) ?_
 refine o_iloadN X360 j (dc52 24 rfl) rfl ?_
 refine o_goto X360 j (dc52 25 rfl) 62 ?_
 exact o_retI X360 j (dc52 26 rfl) rfl ⟨rfl, N0, e360⟩
def D58_0 (x0 : Int32) : Int64 := ((0 : Int64) + ((x0.toInt64) &&& (4294967295 : Int64)))
theorem own_pn51 : plainFor (⟨"java/math/BigInteger", "longValue", "()J"⟩ : MethodName) = true := plainFor_of_name (by first | (simp [plainName, overriddenIn]; done) | decide +kernel)
abbrev mM51 (l : Launch) := own_Met l (⟨"java/math/BigInteger", "longValue", "()J"⟩ : MethodName) jdk_2097_method_136_code 4 (some .long)
theorem ct58 (a1 o1 : Addr) (x0 : Int32) (O_0 : Old Z n0 h0) (k : own_K Z a0 g) (E_0 : Ee0 Z h0 a1) (F0mag : Ff1 Z h0 a1 (.ref o1)) (F0signum : Ff0 Z h0 a1 (.int 1)) (A_1 : own_Ar Z h0 o1 .int [(.int x0)]) :
 mM51 l ws (oR 2 0 0 28) #[(.ref a1)] Z h0 fun v h L => v = some (.long (D58_0 x0)) ∧ Fr n0 L ∧ h = h0 := by
 refine o_body own_pn51 k.1 (ef21 _) ?_
 intro p e s m b _ c T0 X0 j e0
 have N0 := Fr.nil n0
 have Z0 := own_Z0 O_0
 refine o_lconstL X0 j (dc51 0 rfl) 0 ?_
 refine o_lstoreN X0 j (dc51 1 rfl) (Ls' := #[sR a1, sJ 0, s2, sU]) rfl ?_
 refine o_iconstL X0 j (dc51 2 rfl) 1 ?_
 refine o_istoreN X0 j (dc51 3 rfl) (Ls' := #[sR a1, sJ 0, s2, sI 1]) rfl ?_
 refine o_iloadN X0 j (dc51 4 rfl) rfl ?_
 refine o_ifNoD X0 j (dc51 5 rfl) ?_
 refine o_lloadN X0 j (dc51 6 rfl) rfl ?_
 refine o_bipushL X0 j (dc51 7 rfl) 32 ?_
 refine o_lshlL X0 j (dc51 8 rfl) 0 ?_
 refine o_aloadN X0 j (dc51 9 rfl) rfl rfl ?_
 refine o_iloadN X0 j (dc51 10 rfl) rfl ?_
 refine o_callPv X0 j (ct56 a1 o1 x0 O_0 k E_0 (F0mag) (F0signum) A_1) rfl rfl (pL18 rfl) (dc51 11 rfl) 271 273 274 272 275 136 ⟨rfl, rfl, rfl, rfl, rfl, rfl⟩ E_0 2 e0 ?_
 rintro _ T361 L361 X361 ⟨rfl, M361, e361⟩
 have N361 := Fr.app N0 M361
 show oG p e b T361 m 17 #[sR a1, sJ 0, s2, sI 1] [(.int 0), (.long 0)] _
 refine o_i2lL X361 j (dc51 12 rfl) 0 ?_
 refine o_ldc2 X361 j (dc51 13 rfl) 281 rfl ?_
 refine o_landL X361 j (dc51 14 rfl) 0 ?_
 refine o_laddL X361 j (dc51 15 rfl) 0 ?_
 refine o_lstoreN X361 j (dc51 16 rfl) (Ls' := #[sR a1, sJ 0, s2, sI 1]) rfl ?_
 refine o_iinc X361 j (dc51 17 rfl) rfl (z := 0) (by decide) (Ls' := #[sR a1, sJ 0, s2, sI 0]) rfl ?_
 refine o_goto X361 j (dc51 18 rfl) 4 ?_
 refine o_iloadN X361 j (dc51 4 rfl) rfl ?_
 refine o_ifNoD X361 j (dc51 5 rfl) ?_
 refine o_lloadN X361 j (dc51 6 rfl) rfl ?_
 refine o_bipushL X361 j (dc51 7 rfl) 32 ?_
 refine o_lshlL X361 j (dc51 8 rfl) 0 ?_
 refine o_aloadN X361 j (dc51 9 rfl) rfl rfl ?_
 refine o_iloadN X361 j (dc51 10 rfl) rfl ?_
 refine o_callPv X361 j (ct57 a1 o1 x0 O_0 k E_0 (F0mag) (F0signum) A_1) rfl rfl (pL18 rfl) (dc51 11 rfl) 271 273 274 272 275 136 ⟨rfl, rfl, rfl, rfl, rfl, rfl⟩ E_0 2 e361 ?_
 rintro _ T362 L362 X362 ⟨rfl, M362, e362⟩
 have N362 := Fr.app N361 M362
 show oG p e b T362 m 17 #[sR a1, sJ 0, s2, sI 0] [(.int x0), (.long 0)] _
 refine o_i2l X362 j (dc51 12 rfl) ?_
 refine o_ldc2 X362 j (dc51 13 rfl) 281 rfl ?_
 refine o_land X362 j (dc51 14 rfl) ?_
 refine o_ladd X362 j (dc51 15 rfl) ?_
 refine o_lstoreN X362 j (dc51 16 rfl) (Ls' := #[sR a1, sJ (D58_0 x0), s2, sI 0]) rfl ?_
 refine o_iinc X362 j (dc51 17 rfl) rfl (z := -1) (by decide) (Ls' := #[sR a1, sJ (D58_0 x0), s2, sI (-1)]) rfl ?_
 refine o_goto X362 j (dc51 18 rfl) 4 ?_
 refine o_iloadN X362 j (dc51 4 rfl) rfl ?_
 refine o_ifYesD X362 j (dc51 5 rfl) 30 ?_
 refine o_lloadN X362 j (dc51 19 rfl) rfl ?_
 exact o_retJ X362 j (dc51 20 rfl) rfl ⟨rfl, N362, e362⟩
theorem ct59 (a1 o1 : Addr) (O_0 : Old Z n0 h0) (k : own_K Z a0 g) (E_0 : Ee0 Z h0 a1) (F0mag : Ff1 Z h0 a1 (.ref o1)) (F0signum : Ff0 Z h0 a1 (.int 0)) (A_1 : own_Ar Z h0 o1 .int []) :
 mM52 l ws (oR 1 0 0 12) #[(.ref a1), (.int 0)] Z h0 fun v h L => v = some (.int 0) ∧ Fr n0 L ∧ h = h0 := by
 refine o_body own_pn52 k.1 (ef33 _ _) ?_
 intro p e s m b _ c T0 X0 j e0
 have N0 := Fr.nil n0
 have Z0 := own_Z0 O_0
 refine o_iloadN X0 j (dc52 0 rfl) rfl ?_
 refine o_ifYesD X0 j (dc52 1 rfl) 6 ?_
 refine o_iloadN X0 j (dc52 2 rfl) rfl ?_
 refine o_aloadN X0 j (dc52 3 rfl) rfl rfl ?_
 refine o_getF X0 j (dc52 4 rfl) 150 rfl e0 F0mag fun T363 X363 e363 => ?_
 refine o_len X363 j (dc52 5 rfl) e363 A_1 0 ?_
 refine o_icmpNoD X363 j (dc52 6 rfl) ?_
 refine o_aloadN X363 j (dc52 7 rfl) rfl rfl ?_
 refine o_callPv X363 j (ct55 a1 (0 : Int32) O_0 k E_0 (F0signum) (by decide)) rfl rfl (pL31 rfl) (dc52 8 rfl) 276 278 279 277 280 136 ⟨rfl, rfl, rfl, rfl, rfl, rfl⟩ E_0 0 e363 ?_
 rintro _ T364 L364 X364 ⟨rfl, M364, e364⟩
 have N364 := Fr.app N0 M364
 show oG p e b T364 m 19 #[sR a1, sI 0, sU] [(.int 0)] _
 exact o_retI X364 j (dc52 9 rfl) rfl ⟨rfl, N364, e364⟩
theorem own_pn54 : plainFor (⟨"java/math/BigInteger", "intValue", "()I"⟩ : MethodName) = true := plainFor_of_name (by first | (simp [plainName, overriddenIn]; done) | decide +kernel)
abbrev mM54 (l : Launch) := own_Met l (⟨"java/math/BigInteger", "intValue", "()I"⟩ : MethodName) jdk_2097_method_135_code 2 (some .int)
theorem ct60 (a1 o1 : Addr) (O_0 : Old Z n0 h0) (k : own_K Z a0 g) (E_0 : Ee0 Z h0 a1) (F0mag : Ff1 Z h0 a1 (.ref o1)) (F0signum : Ff0 Z h0 a1 (.int 0)) (A_1 : own_Ar Z h0 o1 .int []) :
 mM54 l ws (oR 2 0 0 26) #[(.ref a1)] Z h0 fun v h L => v = some (.int 0) ∧ Fr n0 L ∧ h = h0 := by
 refine o_body own_pn54 k.1 (ef28 _) ?_
 intro p e s m b _ c T0 X0 j e0
 have N0 := Fr.nil n0
 have Z0 := own_Z0 O_0
 refine o_iconstL X0 j (dc54 0 rfl) 0 ?_
 refine o_istoreN X0 j (dc54 1 rfl) (Ls' := #[sR a1, sI 0]) rfl ?_
 refine o_aloadN X0 j (dc54 2 rfl) rfl rfl ?_
 refine o_iconstL X0 j (dc54 3 rfl) 0 ?_
 refine o_callPv X0 j (ct59 a1 o1 O_0 k E_0 (F0mag) (F0signum) A_1) rfl rfl (pL18 rfl) (dc54 4 rfl) 271 273 274 272 275 136 ⟨rfl, rfl, rfl, rfl, rfl, rfl⟩ E_0 0 e0 ?_
 rintro _ T365 L365 X365 ⟨rfl, M365, e365⟩
 have N365 := Fr.app N0 M365
 show oG p e b T365 m 7 #[sR a1, sI 0] [(.int 0)] _
 refine o_istoreN X365 j (dc54 5 rfl) (Ls' := #[sR a1, sI 0]) rfl ?_
 refine o_iloadN X365 j (dc54 6 rfl) rfl ?_
 exact o_retI X365 j (dc54 7 rfl) rfl ⟨rfl, N365, e365⟩
def H61  : Bool := decide (¬ (1000000000 : Int64) < (0 : Int64)) && true
theorem own_pn56 : plainFor (⟨"java/lang/Math", "floorDiv", "(JJ)J"⟩ : MethodName) = true := Jvm.Free.JP.mathPlain rfl (by decide +kernel)
abbrev mM56 (l : Launch) := own_Met l (⟨"java/lang/Math", "floorDiv", "(JJ)J"⟩ : MethodName) jdk_29_method_49_code 6 (some .long)
theorem ct61 (O_0 : Old Z n0 h0) (k : own_K Z a0 g) (hH : H61  = true) :
 mM56 l ws (oR 0 0 0 0) #[(.long 0), (.long 1000000000)] Z h0 fun v h L => v = some (.long 0) ∧ Fr n0 L ∧ h = h0 := by
 refine o_body own_pn56 k.1 (ef7 _ _) ?_
 intro p e s m b _ c T0 X0 j e0
 have N0 := Fr.nil n0
 have Z0 := own_Z0 O_0
 obtain ⟨hh0, q0⟩ := o_ad hH
 refine o_lloadN X0 j (dc56 0 rfl) rfl ?_
 refine o_lloadN X0 j (dc56 1 rfl) rfl ?_
 refine o_ldivL X0 j (dc56 2 rfl) 0 ?_
 refine o_lstore X0 j (dc56 3 rfl) (Ls' := #[sJ 0, s2, sJ 1000000000, s2, sJ 0, s2]) rfl ?_
 refine o_lloadN X0 j (dc56 4 rfl) rfl ?_
 refine o_lloadN X0 j (dc56 5 rfl) rfl ?_
 refine o_lxorL X0 j (dc56 6 rfl) 1000000000 ?_
 refine o_lconstL X0 j (dc56 7 rfl) 0 ?_
 refine o_lcmp X0 j (dc56 8 rfl) ?_
 refine o_ifYes X0 j (dc56 9 rfl) 27 (flt (fun q => hh0 ((lw_lt (1000000000 : Int64) (0 : Int64)).mp q))).2.1 ?_
 refine o_lload X0 j (dc56 10 rfl) rfl ?_
 exact o_retJ X0 j (dc56 11 rfl) rfl ⟨rfl, N0, e0⟩
def H62 (x0 : Int64) : Bool := decide (¬ ((x0 ^^^ (x0 + (0 : Int64))) &&& ((0 : Int64) ^^^ (x0 + (0 : Int64)))) < (0 : Int64)) && true
theorem own_pn57 : plainFor (⟨"java/lang/Math", "addExact", "(JJ)J"⟩ : MethodName) = true := Jvm.Free.JP.mathPlain rfl (by decide +kernel)
abbrev mM57 (l : Launch) := own_Met l (⟨"java/lang/Math", "addExact", "(JJ)J"⟩ : MethodName) jdk_29_method_25_code 6 (some .long)
theorem ct62 (x0 : Int64) (O_0 : Old Z n0 h0) (k : own_K Z a0 g) (hH : H62 x0 = true) :
 mM57 l ws (oR 0 0 0 0) #[(.long x0), (.long 0)] Z h0 fun v h L => v = some (.long (x0 + (0 : Int64))) ∧ Fr n0 L ∧ h = h0 := by
 refine o_body own_pn57 k.1 (ef7 _ _) ?_
 intro p e s m b _ c T0 X0 j e0
 have N0 := Fr.nil n0
 have Z0 := own_Z0 O_0
 obtain ⟨hh0, q0⟩ := o_ad hH
 refine o_lloadN X0 j (dc57 0 rfl) rfl ?_
 refine o_lloadN X0 j (dc57 1 rfl) rfl ?_
 refine o_ladd X0 j (dc57 2 rfl) ?_
 refine o_lstore X0 j (dc57 3 rfl) (Ls' := #[sJ x0, s2, sJ 0, s2, sJ (x0 + (0 : Int64)), s2]) rfl ?_
 refine o_lloadN X0 j (dc57 4 rfl) rfl ?_
 refine o_lload X0 j (dc57 5 rfl) rfl ?_
 refine o_lxor X0 j (dc57 6 rfl) ?_
 refine o_lloadN X0 j (dc57 7 rfl) rfl ?_
 refine o_lload X0 j (dc57 8 rfl) rfl ?_
 refine o_lxor X0 j (dc57 9 rfl) ?_
 refine o_land X0 j (dc57 10 rfl) ?_
 refine o_lconstL X0 j (dc57 11 rfl) 0 ?_
 refine o_lcmp X0 j (dc57 12 rfl) ?_
 refine o_ifYes X0 j (dc57 13 rfl) 29 (flt (fun q => hh0 ((lw_lt ((x0 ^^^ (x0 + (0 : Int64))) &&& ((0 : Int64) ^^^ (x0 + (0 : Int64)))) (0 : Int64)).mp q))).2.1 ?_
 refine o_lload X0 j (dc57 14 rfl) rfl ?_
 exact o_retJ X0 j (dc57 15 rfl) rfl ⟨rfl, N0, e0⟩
def H63  : Bool := decide (¬ (1000000000 : Int64) < (0 : Int64)) && true
theorem own_pn58 : plainFor (⟨"java/lang/Math", "floorMod", "(JJ)J"⟩ : MethodName) = true := Jvm.Free.JP.mathPlain rfl (by decide +kernel)
abbrev mM58 (l : Launch) := own_Met l (⟨"java/lang/Math", "floorMod", "(JJ)J"⟩ : MethodName) jdk_29_method_52_code 6 (some .long)
theorem ct63 (O_0 : Old Z n0 h0) (k : own_K Z a0 g) (hH : H63  = true) :
 mM58 l ws (oR 0 0 0 0) #[(.long 0), (.long 1000000000)] Z h0 fun v h L => v = some (.long 0) ∧ Fr n0 L ∧ h = h0 := by
 refine o_body own_pn58 k.1 (ef7 _ _) ?_
 intro p e s m b _ c T0 X0 j e0
 have N0 := Fr.nil n0
 have Z0 := own_Z0 O_0
 obtain ⟨hh0, q0⟩ := o_ad hH
 refine o_lloadN X0 j (dc58 0 rfl) rfl ?_
 refine o_lloadN X0 j (dc58 1 rfl) rfl ?_
 refine o_lremL X0 j (dc58 2 rfl) 0 ?_
 refine o_lstore X0 j (dc58 3 rfl) (Ls' := #[sJ 0, s2, sJ 1000000000, s2, sJ 0, s2]) rfl ?_
 refine o_lloadN X0 j (dc58 4 rfl) rfl ?_
 refine o_lloadN X0 j (dc58 5 rfl) rfl ?_
 refine o_lxorL X0 j (dc58 6 rfl) 1000000000 ?_
 refine o_lconstL X0 j (dc58 7 rfl) 0 ?_
 refine o_lcmp X0 j (dc58 8 rfl) ?_
 refine o_ifYes X0 j (dc58 9 rfl) 25 (flt (fun q => hh0 ((lw_lt (1000000000 : Int64) (0 : Int64)).mp q))).2.1 ?_
 refine o_lload X0 j (dc58 10 rfl) rfl ?_
 exact o_retJ X0 j (dc58 11 rfl) rfl ⟨rfl, N0, e0⟩
theorem own_pn60 : plainFor (⟨"java/time/Duration", "<init>", "(JI)V"⟩ : MethodName) = true := plainFor_of_name (by first | (simp [plainName, overriddenIn]; done) | decide +kernel)
theorem ef34 (b0 : Addr) (b1 : Int64) (b2 : Int32) (m : MethodId) : entryFrame m #[.ref b0, .long b1, .int b2] 4 = mkF m 0 #[.val (.ref b0), .val (.long b1), .second, .val (.int b2)] [] := by first | (simp [entryFrame, mkF, argsToLocals, Value.category]; done) | rfl
abbrev mM60 (l : Launch) := own_Met l (⟨"java/time/Duration", "<init>", "(JI)V"⟩ : MethodName) jdk_2316_method_17_code 4 none
def sn24 (k : own_K Z a0 g) := slot_ne (Or.inr (ot k 26 rfl)) (Or.inr (ot k 19 rfl)) (by decide) (t := .int) (t' := .long) (by decide) (by decide)
def sn25 (k : own_K Z a0 g) := slot_ne (Or.inr (ot k 19 rfl)) (Or.inr (ot k 26 rfl)) (by decide) (t := .long) (t' := .int) (by decide) (by decide)
theorem ct65 (a1 : Addr) (x0 : Int64) (O_0 : Old Z n0 h0) (k : own_K Z a0 g) (E_0 : Ee2 Z h0 a1) (F0nanos : Ff5 Z h0 a1 (.int 0)) (F0seconds : Ff4 Z h0 a1 (.long 0)) (G_0 : n0 ≤ a1) :
 mM60 l ws (oR 1 0 0 12) #[(.ref a1), (.long x0), (.int 0)] Z h0 fun v h L => v = none ∧ Fr n0 L ∧ Keep h0 h [a1] ∧ Ff5 Z h a1 (.int 0) ∧ Ff4 Z h a1 (.long x0) := by
 refine o_body own_pn60 k.1 (ef34 _ _ _) ?_
 intro p e s m b _ c T0 X0 j e0
 have N0 := Fr.nil n0
 have Z0 := own_Z0 O_0
 refine o_aloadN X0 j (dc60 0 rfl) rfl rfl ?_
 refine o_initO X0 j (dc60 1 rfl) 309 89 90 ⟨rfl, rfl, rfl⟩ e0 0 fun T366 X366 e366 => ?_
 show oG p e b T366 m 4 #[sR a1, sJ x0, s2, sI 0] [] _
 refine o_aloadN X366 j (dc60 2 rfl) rfl rfl ?_
 refine o_lloadN X366 j (dc60 3 rfl) rfl ?_
 refine o_putf X366 j (dc60 4 rfl) 18 19 304 ⟨rfl, rfl, rfl⟩ .long e366 F0seconds E_0 fun T367 h367 X367 e367 W367 => ?_
 have F367 := (F0seconds).same W367
 have N367 := Fr.snoc X367 N0 G_0
 refine o_aloadN X367 j (dc60 5 rfl) rfl rfl ?_
 refine o_iloadN X367 j (dc60 6 rfl) rfl ?_
 have y369 := (F0nanos.other W367 (Or.inr (sn24 k)))
 refine o_putf X367 j (dc60 7 rfl) 25 26 304 ⟨rfl, rfl, rfl⟩ .int e367 y369 (E_0.wr W367) fun T368 h368 X368 e368 W368 => ?_
 have F368 := y369.same W368
 have N368 := Fr.snoc X368 N367 G_0
 have y370 := (F367.other W368 (Or.inr (sn25 k)))
 exact o_retV X368 j (dc60 8 rfl) e368 ⟨rfl, N368, (((Keep.refl h0 [a1]).wr W367 (mI 0 rfl)).wr W368 (mI 0 rfl)), F368, y370⟩
def H66 (x0 : Int64) : Bool := decide (¬ (x0 ||| (0 : Int64)) = (0 : Int64)) && true
theorem own_pn59 : plainFor (⟨"java/time/Duration", "create", "(JI)Ljava/time/Duration;"⟩ : MethodName) = true := plainFor_of_name (by first | (simp [plainName, overriddenIn]; done) | decide +kernel)
theorem own_pd32 : parseMethodDescriptor "(JI)V" = some ⟨[.long, .int], none⟩ := by decide +kernel
def pL32 {L : List Value} := @lenOf _ _ _ own_pd32 L
abbrev mM59 (l : Launch) := own_Met l (⟨"java/time/Duration", "create", "(JI)Ljava/time/Duration;"⟩ : MethodName) jdk_2316_method_16_code 3 (some (.object "java/time/Duration"))
theorem ct66 (x0 : Int64) (O_0 : Old Z n0 h0) (k : own_K Z a0 g) (hH : H66 x0 = true) :
 mM59 l ws (oR 2 1 2 28) #[(.long x0), (.int 0)] Z h0 fun v h L => ∃ (b371 : Addr), v = some (.ref b371) ∧ Fr n0 L ∧ Keep h0 h [] ∧ h0.size ≤ b371 ∧ Ee2 Z h b371 ∧ Ff5 Z h b371 (.int 0) ∧ Ff4 Z h b371 (.long x0) := by
 refine o_body own_pn59 k.1 (ef4 _ _) ?_
 intro p e s m b _ c T0 X0 j e0
 have N0 := Fr.nil n0
 have Z0 := own_Z0 O_0
 obtain ⟨hh0, q0⟩ := o_ad hH
 refine o_lloadN X0 j (dc59 0 rfl) rfl ?_
 refine o_iloadN X0 j (dc59 1 rfl) rfl ?_
 refine o_i2lL X0 j (dc59 2 rfl) 0 ?_
 refine o_lor X0 j (dc59 3 rfl) ?_
 refine o_lconstL X0 j (dc59 4 rfl) 0 ?_
 refine o_lcmp X0 j (dc59 5 rfl) ?_
 refine o_ifYes X0 j (dc59 6 rfl) 13 (feq (fun q => hh0 ((lw_eq (x0 ||| (0 : Int64)) (0 : Int64)).mp q))).2 ?_
 refine o_new X0 j (dc59 7 rfl) 303 304 11 ⟨rfl, rfl, rfl⟩ e0 fun T371 h371 b371 X371 e371 g371 E371 A371 D371 => ?_
 have F371_seconds : Ff4 Z h371 b371 (.long 0) := D371 (Or.inr (ot k 19 rfl)) (ty := .long) (by decide)
 have F371_nanos : Ff5 Z h371 b371 (.int 0) := D371 (Or.inr (ot k 26 rfl)) (ty := .int) (by decide)
 have z371 := ntr (Nat.le_refl _) (nqs g371)
 have l371 := (ntr Z0 z371)
 refine o_dup X371 j (dc59 8 rfl) rfl ?_
 refine o_lloadN X371 j (dc59 9 rfl) rfl ?_
 refine o_iloadN X371 j (dc59 10 rfl) rfl ?_
 refine o_callSp X371 j (ct65 b371 x0 ((O_0.ext E371)) k A371 (F371_nanos) (F371_seconds) l371) rfl rfl (pL32 rfl) (dc59 11 rfl) 305 306 308 11 ⟨rfl, rfl, rfl, rfl⟩ 1 e371 ?_
 rintro _ T372 L372 X372 ⟨rfl, M372, K372, P0372, P1372⟩
 have N372 := Fr.app N0 M372
 show oG p e b T372 m 22 #[sJ x0, s2, sI 0] [(.ref b371)] _
 exact o_retA X372 j (dc59 12 rfl) rfl ⟨b371, rfl, N372, (((Keep.refl h0 []).ext E371).trans K372 (allS (Or.inr z371) all0)), z371, (A371.keep K372), P0372, P1372⟩
def H67 (x0 : Int64) : Bool := (H62 x0) && ((H66 (x0 + (0 : Int64))) && true)
theorem own_pn55 : plainFor (⟨"java/time/Duration", "ofSeconds", "(JJ)Ljava/time/Duration;"⟩ : MethodName) = true := plainFor_of_name (by first | (simp [plainName, overriddenIn]; done) | decide +kernel)
theorem own_pd33 : parseMethodDescriptor "(JI)Ljava/time/Duration;" = some ⟨[.long, .int], some (.object "java/time/Duration")⟩ := by decide +kernel
def pL33 {L : List Value} := @lenOf _ _ _ own_pd33 L
theorem ef35 (b0 b1 : Int64) (m : MethodId) : entryFrame m #[.long b0, .long b1] 7 = mkF m 0 #[.val (.long b0), .second, .val (.long b1), .second, .unset, .unset, .unset] [] := by first | (simp [entryFrame, mkF, argsToLocals, Value.category]; done) | rfl
abbrev mM55 (l : Launch) := own_Met l (⟨"java/time/Duration", "ofSeconds", "(JJ)Ljava/time/Duration;"⟩ : MethodName) jdk_2316_method_5_code 7 (some (.object "java/time/Duration"))
theorem ct67 (x0 : Int64) (O_0 : Old Z n0 h0) (k : own_K Z a0 g) (hH : H67 x0 = true) :
 mM55 l ws (oR 3 1 2 42) #[(.long x0), (.long 0)] Z h0 fun v h L => ∃ (u0376 : Addr), v = some (.ref u0376) ∧ Fr n0 L ∧ Keep h0 h [] ∧ h0.size ≤ u0376 ∧ Ee2 Z h u0376 ∧ Ff5 Z h u0376 (.int 0) ∧ Ff4 Z h u0376 (.long (x0 + (0 : Int64))) := by
 refine o_body own_pn55 k.1 (ef35 _ _) ?_
 intro p e s m b _ c T0 X0 j e0
 have N0 := Fr.nil n0
 have Z0 := own_Z0 O_0
 obtain ⟨hh0, q0⟩ := own_and hH
 obtain ⟨hh1, q1⟩ := own_and q0
 refine o_lloadN X0 j (dc55 0 rfl) rfl ?_
 refine o_lloadN X0 j (dc55 1 rfl) rfl ?_
 refine o_ldc2 X0 j (dc55 2 rfl) 290 rfl ?_
 refine o_callS X0 j (ct61 O_0 k (by decide)) rfl rfl (pL5 rfl) (dc55 3 rfl) 291 292 67 293 ⟨rfl, rfl, rfl, rfl⟩ 2 e0 ?_
 rintro _ T373 L373 X373 ⟨rfl, M373, e373⟩
 have N373 := Fr.app N0 M373
 show oG p e b T373 m 8 #[sJ x0, s2, sJ 0, s2, sU, sU, sU] [(.long 0), (.long x0)] _
 refine o_callS X373 j (ct62 x0 O_0 k hh0) rfl rfl (pL5 rfl) (dc55 4 rfl) 294 295 67 296 ⟨rfl, rfl, rfl, rfl⟩ 0 e373 ?_
 rintro _ T374 L374 X374 ⟨rfl, M374, e374⟩
 have N374 := Fr.app N373 M374
 show oG p e b T374 m 11 #[sJ x0, s2, sJ 0, s2, sU, sU, sU] [(.long (x0 + (0 : Int64)))] _
 refine o_lstore X374 j (dc55 5 rfl) (Ls' := #[sJ x0, s2, sJ 0, s2, sJ (x0 + (0 : Int64)), s2, sU]) rfl ?_
 refine o_lloadN X374 j (dc55 6 rfl) rfl ?_
 refine o_ldc2 X374 j (dc55 7 rfl) 290 rfl ?_
 refine o_callS X374 j (ct63 O_0 k (by decide)) rfl rfl (pL5 rfl) (dc55 8 rfl) 297 298 67 299 ⟨rfl, rfl, rfl, rfl⟩ 0 e374 ?_
 rintro _ T375 L375 X375 ⟨rfl, M375, e375⟩
 have N375 := Fr.app N374 M375
 show oG p e b T375 m 20 #[sJ x0, s2, sJ 0, s2, sJ (x0 + (0 : Int64)), s2, sU] [(.long 0)] _
 refine o_l2iL X375 j (dc55 9 rfl) 0 ?_
 refine o_istore X375 j (dc55 10 rfl) (Ls' := #[sJ x0, s2, sJ 0, s2, sJ (x0 + (0 : Int64)), s2, sI 0]) rfl ?_
 refine o_lload X375 j (dc55 11 rfl) rfl ?_
 refine o_iload X375 j (dc55 12 rfl) rfl ?_
 refine o_callS X375 j (ct66 (x0 + (0 : Int64)) O_0 k hh1) rfl rfl (pL33 rfl) (dc55 13 rfl) 300 301 11 302 ⟨rfl, rfl, rfl, rfl⟩ 0 e375 ?_
 rintro _ T376 L376 X376 ⟨u0376, rfl, M376, K376, P0376, P1376, P2376, P3376⟩
 have N376 := Fr.app N375 M376
 have l376_0 := (ntr Z0 P0376)
 show oG p e b T376 m 30 #[sJ x0, s2, sJ 0, s2, sJ (x0 + (0 : Int64)), s2, sI 0] [(.ref u0376)] _
 exact o_retA X376 j (dc55 14 rfl) rfl ⟨u0376, rfl, N376, ((Keep.refl h0 []).trans K376 all0), P0376, P1376, P2376, P3376⟩
def H68 (x0 : Int64) : Bool := (H29 x0) && ((H52 (D26_0 x0) (x0.toInt32)) && (decide (¬ (63 : Int32) < (D54_0 (D38_1 (D26_0 x0) (x0.toInt32)))) && ((H67 (D58_0 (D38_1 (D26_0 x0) (x0.toInt32)))) && true)))
theorem own_pn23 : plainFor (⟨"java/time/Duration", "create", "(Ljava/math/BigDecimal;)Ljava/time/Duration;"⟩ : MethodName) = true := plainFor_of_name (by first | (simp [plainName, overriddenIn]; done) | decide +kernel)
theorem own_pd34 : parseMethodDescriptor "()J" = some ⟨[], some .long⟩ := by decide +kernel
def pL34 {L : List Value} := @lenOf _ _ _ own_pd34 L
theorem own_pd35 : parseMethodDescriptor "(JJ)Ljava/time/Duration;" = some ⟨[.long, .long], some (.object "java/time/Duration")⟩ := by decide +kernel
def pL35 {L : List Value} := @lenOf _ _ _ own_pd35 L
def R68_0 (x0 : Int64) : Int64 := ((D58_0 (D38_1 (D26_0 x0) (x0.toInt32))) + (0 : Int64))
abbrev mM23 (l : Launch) := own_Met l (⟨"java/time/Duration", "create", "(Ljava/math/BigDecimal;)Ljava/time/Duration;"⟩ : MethodName) jdk_2316_method_48_code 3 (some (.object "java/time/Duration"))
theorem ct68 (a1 : Addr) (x0 : Int64) (O_0 : Old Z n0 h0) (k : own_K Z a0 g) (E_0 : Ee1 Z h0 a1) (F0intCompact : Ff2 Z h0 a1 (.long x0)) (F0intVal : Ff6 Z h0 a1 .null) (F0scale : Ff3 Z h0 a1 (.int 9)) (hH : H68 x0 = true) :
 mM23 l ws (oR 7 14 40 115) #[(.ref a1)] Z h0 fun v h L => ∃ (u0385 : Addr), v = some (.ref u0385) ∧ Fr n0 L ∧ Keep h0 h [] ∧ h0.size ≤ u0385 ∧ Ee2 Z h u0385 ∧ Ff5 Z h u0385 (.int 0) ∧ Ff4 Z h u0385 (.long (R68_0 x0)) := by
 refine o_body own_pn23 k.1 (ef20 _) ?_
 intro p e s m b _ c T0 X0 j e0
 have N0 := Fr.nil n0
 have Z0 := own_Z0 O_0
 obtain ⟨hh0, q0⟩ := own_and hH
 obtain ⟨hh1, q1⟩ := own_and q0
 obtain ⟨hh2, q2⟩ := o_ad q1
 obtain ⟨hh3, q3⟩ := own_and q2
 refine o_aloadN X0 j (dc23 0 rfl) rfl rfl ?_
 refine o_bipushL X0 j (dc23 1 rfl) 9 ?_
 refine o_callV X0 j (ct22 a1 x0 O_0 k E_0 (F0intCompact) (F0intVal) (F0scale)) rfl rfl (pL1 rfl) (dc23 2 rfl) 114 115 117 116 118 34 ⟨rfl, rfl, rfl, rfl, rfl, rfl⟩ E_0 0 e0 ?_
 rintro _ T377 L377 X377 ⟨u0377, rfl, M377, K377, P0377, P1377, P2377, P3377, P4377, P5377⟩
 have N377 := Fr.app N0 M377
 have l377_0 := (ntr Z0 P0377)
 show oG p e b T377 m 6 #[sR a1, sU, sU] [(.ref u0377)] _
 refine o_callV X377 j (ct29 u0377 x0 ((O_0.keep K377 all0)) k P1377 P2377 P3377 P5377 hh0) rfl rfl (pL17 rfl) (dc23 3 rfl) 119 120 122 121 123 34 ⟨rfl, rfl, rfl, rfl, rfl, rfl⟩ P1377 0 rfl ?_
 rintro _ T378 L378 X378 ⟨u0378, u1378, rfl, M378, K378, P0378, P1378, P2378, P3378, P4378, P5378, P6378, P7378⟩
 have N378 := Fr.app N377 M378
 have l378_0 := (ntr Z0 (ntr K377.1 P0378))
 have l378_1 := (ntr Z0 (ntr K377.1 P1378))
 show oG p e b T378 m 9 #[sR a1, sU, sU] [(.ref u0378)] _
 refine o_astoreN X378 j (dc23 4 rfl) rfl (Ls' := #[sR a1, sR u0378, sU]) rfl ?_
 refine o_aloadN X378 j (dc23 5 rfl) rfl rfl ?_
 refine o_getS X378 j (dc23 6 rfl) 152 rfl rfl ((k4 k).ext (((O_0.keep K377 all0).keep K378 all0)).2) fun T379 X379 e379 => ?_
 refine o_callV X379 j (ct52 u0378 (g 54) u1378 (g 55) (D26_0 x0) (x0.toInt32) (((O_0.keep K377 all0).keep K378 all0)) k P3378 P5378 P6378 (((k30 k).ext (((O_0.keep K377 all0).keep K378 all0)).2)) (((k32 k).ext (((O_0.keep K377 all0).keep K378 all0)).2)) (((k31 k).ext (((O_0.keep K377 all0).keep K378 all0)).2)) P7378 (((k33 k).ext (((O_0.keep K377 all0).keep K378 all0)).2)) hh1) rfl rfl (pL30 rfl) (dc23 7 rfl) 153 154 156 155 157 136 ⟨rfl, rfl, rfl, rfl, rfl, rfl⟩ P3378 0 e379 ?_
 rintro _ T380 L380 X380 ⟨u0380, u1380, u2380, rfl, M380, K380, P0380, P1380, P2380, P3380, P4380, P5380, P6380, P7380, P8380, P9380, P10380, P11380⟩
 have N380 := Fr.app N378 M380
 have l380_0 := (ntr Z0 (ntr (ntr K377.1 K378.1) P0380))
 have l380_1 := (ntr Z0 (ntr (ntr K377.1 K378.1) P1380))
 have l380_2 := (ntr Z0 (ntr (ntr K377.1 K378.1) P2380))
 show oG p e b T380 m 17 #[sR a1, sR u0378, sU] [(.ref u0380)] _
 refine o_astoreN X380 j (dc23 8 rfl) rfl (Ls' := #[sR a1, sR u0378, sR u0380]) rfl ?_
 refine o_aloadN X380 j (dc23 9 rfl) rfl rfl ?_
 refine o_iconstL X380 j (dc23 10 rfl) 0 ?_
 refine o_aaload X380 j (dc23 11 rfl) rfl (P6380.ar) (.ref u1380) ?_
 have y381 := (((O_0.keep K377 all0).keep K378 all0).keep K380 all0)
 refine o_callV X380 j (ct54 u1380 u2380 (D38_1 (D26_0 x0) (x0.toInt32)) y381 k P7380 P8380 P9380 P10380 l380_1 P11380) rfl rfl (pL31 rfl) (dc23 12 rfl) 255 256 258 257 259 136 ⟨rfl, rfl, rfl, rfl, rfl, rfl⟩ P7380 0 rfl ?_
 rintro _ T382 L382 X382 ⟨rfl, M382, K382, P0382, P1382, P2382⟩
 have N382 := Fr.app N380 M382
 show oG p e b T382 m 24 #[sR a1, sR u0378, sR u0380] [(.int (D54_0 (D38_1 (D26_0 x0) (x0.toInt32))))] _
 refine o_bipushL X382 j (dc23 13 rfl) 63 ?_
 refine o_icmpYes X382 j (dc23 14 rfl) 57 (flt hh2).2.2.2 ?_
 refine o_aloadN X382 j (dc23 15 rfl) rfl rfl ?_
 refine o_iconstL X382 j (dc23 16 rfl) 0 ?_
 refine o_aaload X382 j (dc23 17 rfl) rfl (((P6380.keep K382 (ninS (Ne.symm P3380) nin0))).ar) (.ref u1380) ?_
 refine o_callV X382 j (ct58 u1380 u2380 (D38_1 (D26_0 x0) (x0.toInt32)) ((y381.keep K382 (allS l380_1 all0))) k ((P7380.keep K382)) P1382 P2382 ((P11380.keep K382 (ninS P5380 nin0)))) rfl rfl (pL34 rfl) (dc23 18 rfl) 266 267 269 268 270 136 ⟨rfl, rfl, rfl, rfl, rfl, rfl⟩ (P7380.keep K382) 0 rfl ?_
 rintro _ T383 L383 X383 ⟨rfl, M383, e383⟩
 have N383 := Fr.app N382 M383
 show oG p e b T383 m 63 #[sR a1, sR u0378, sR u0380] [(.long (D58_0 (D38_1 (D26_0 x0) (x0.toInt32))))] _
 refine o_aloadN X383 j (dc23 19 rfl) rfl rfl ?_
 refine o_iconstL X383 j (dc23 20 rfl) 1 ?_
 refine o_aaload X383 j (dc23 21 rfl) e383 (((P6380.keep K382 (ninS (Ne.symm P3380) nin0))).ar) (.ref (g 0)) ?_
 refine o_callV X383 j (ct60 (g 0) (g 1) ((y381.keep K382 (allS l380_1 all0))) k (((k7 k).ext ((y381.keep K382 (allS l380_1 all0))).2)) (((k9 k).ext ((y381.keep K382 (allS l380_1 all0))).2)) (((k8 k).ext ((y381.keep K382 (allS l380_1 all0))).2)) (((k10 k).ext ((y381.keep K382 (allS l380_1 all0))).2))) rfl rfl (pL31 rfl) (dc23 22 rfl) 282 283 285 284 286 136 ⟨rfl, rfl, rfl, rfl, rfl, rfl⟩ ((k7 k).ext ((y381.keep K382 (allS l380_1 all0))).2) 2 e383 ?_
 rintro _ T384 L384 X384 ⟨rfl, M384, e384⟩
 have N384 := Fr.app N383 M384
 show oG p e b T384 m 69 #[sR a1, sR u0378, sR u0380] [(.int 0), (.long (D58_0 (D38_1 (D26_0 x0) (x0.toInt32))))] _
 refine o_i2lL X384 j (dc23 23 rfl) 0 ?_
 refine o_callS X384 j (ct67 (D58_0 (D38_1 (D26_0 x0) (x0.toInt32))) ((y381.keep K382 (allS l380_1 all0))) k hh3) rfl rfl (pL35 rfl) (dc23 24 rfl) 287 288 11 289 ⟨rfl, rfl, rfl, rfl⟩ 0 e384 ?_
 rintro _ T385 L385 X385 ⟨u0385, rfl, M385, K385, P0385, P1385, P2385, P3385⟩
 have N385 := Fr.app N384 M385
 have l385_0 := (ntr Z0 (ntr (ntr (ntr (ntr K377.1 K378.1) K380.1) K382.1) P0385))
 show oG p e b T385 m 73 #[sR a1, sR u0378, sR u0380] [(.ref u0385)] _
 exact o_retA X385 j (dc23 25 rfl) rfl ⟨u0385, rfl, N385, ((((((Keep.refl h0 []).trans K377 all0).trans K378 all0).trans K380 all0).trans K382 (allS (Or.inr (ntr (ntr K377.1 K378.1) P1380)) all0)).trans K385 all0), (ntr (ntr (ntr (ntr K377.1 K378.1) K380.1) K382.1) P0385), P1385, P2385, P3385⟩
def H69 (x0 : Int64) : Bool := decide (¬ x0 = (0 : Int64)) && (decide (¬ x0 = (1 : Int64)) && ((H17 x0) && true))
theorem own_pd36 : parseMethodDescriptor "()Ljava/math/BigDecimal;" = some ⟨[], some (.object "java/math/BigDecimal")⟩ := by decide +kernel
def pL36 {L : List Value} := @lenOf _ _ _ own_pd36 L
theorem own_pd37 : parseMethodDescriptor "(Ljava/math/BigDecimal;)Ljava/time/Duration;" = some ⟨[(.object "java/math/BigDecimal")], some (.object "java/time/Duration")⟩ := by decide +kernel
def pL37 {L : List Value} := @lenOf _ _ _ own_pd37 L
theorem ct69 (a1 : Addr) (x0 : Int64) (O_0 : Old Z n0 h0) (k : own_K Z a0 g) (E_0 : Ee2 Z h0 a1) (F0nanos : Ff5 Z h0 a1 (.int 0)) (F0seconds : Ff4 Z h0 a1 (.long 4)) (hH : H69 x0 = true) :
 mM2 l ws (oR 8 16 50 129) #[(.ref a1), (.long x0)] Z h0 fun v h L => ∃ (u0389 : Addr), v = some (.ref u0389) ∧ Fr n0 L ∧ Keep h0 h [] ∧ h0.size ≤ u0389 ∧ Ee2 Z h u0389 ∧ Ff5 Z h u0389 (.int 0) ∧ Ff4 Z h u0389 (.long 8) := by
 refine o_body own_pn2 k.1 (ef1 _ _) ?_
 intro p e s m b _ c T0 X0 j e0
 have N0 := Fr.nil n0
 have Z0 := own_Z0 O_0
 obtain ⟨hh0, q0⟩ := o_ad hH
 obtain ⟨hh1, q1⟩ := o_ad q0
 obtain ⟨hh2, q2⟩ := own_and q1
 refine o_lloadN X0 j (dc2 0 rfl) rfl ?_
 refine o_lconstL X0 j (dc2 1 rfl) 0 ?_
 refine o_lcmp X0 j (dc2 2 rfl) ?_
 refine o_ifYes X0 j (dc2 3 rfl) 10 (feq (fun q => hh0 ((lw_eq x0 (0 : Int64)).mp q))).2 ?_
 refine o_lloadN X0 j (dc2 4 rfl) rfl ?_
 refine o_lconstL X0 j (dc2 5 rfl) 1 ?_
 refine o_lcmp X0 j (dc2 6 rfl) ?_
 refine o_ifYes X0 j (dc2 7 rfl) 18 (feq (fun q => hh1 ((lw_eq x0 (1 : Int64)).mp q))).2 ?_
 refine o_aloadN X0 j (dc2 10 rfl) rfl rfl ?_
 refine o_callPv X0 j (ct16 a1 O_0 k E_0 (F0nanos) (F0seconds)) rfl rfl (pL36 rfl) (dc2 11 rfl) 27 29 30 28 31 11 ⟨rfl, rfl, rfl, rfl, rfl, rfl⟩ E_0 0 e0 ?_
 rintro _ T386 L386 X386 ⟨u0386, rfl, M386, K386, P0386, P1386, P2386, P3386, P4386, P5386⟩
 have N386 := Fr.app N0 M386
 have l386_0 := (ntr Z0 P0386)
 show oG p e b T386 m 22 #[sR a1, sJ x0, s2] [(.ref u0386)] _
 refine o_lloadN X386 j (dc2 12 rfl) rfl ?_
 refine o_callS X386 j (ct17 x0 ((O_0.keep K386 all0)) k hh2) rfl rfl (pL11 rfl) (dc2 13 rfl) 32 33 34 35 ⟨rfl, rfl, rfl, rfl⟩ 1 rfl ?_
 rintro _ T387 L387 X387 ⟨rfl, M387, e387⟩
 have N387 := Fr.app N386 M387
 show oG p e b T387 m 26 #[sR a1, sJ x0, s2] [(.ref (g 8)), (.ref u0386)] _
 refine o_callV X387 j (ct21 u0386 (g 8) (2 : Int64) ((O_0.keep K386 all0)) k P1386 P2386 P5386 (((k11 k).ext ((O_0.keep K386 all0)).2)) (((k12 k).ext ((O_0.keep K386 all0)).2)) (((k13 k).ext ((O_0.keep K386 all0)).2)) (by decide)) rfl rfl (pL12 rfl) (dc2 14 rfl) 95 96 98 97 99 34 ⟨rfl, rfl, rfl, rfl, rfl, rfl⟩ P1386 0 e387 ?_
 rintro _ T388 L388 X388 ⟨u0388, rfl, M388, K388, P0388, P1388, P2388, P3388, P4388, P5388⟩
 rw [show ((4000000000 : Int64) * (2 : Int64)) = (8000000000 : Int64) from by decide +kernel] at P2388
 have N388 := Fr.app N387 M388
 have l388_0 := (ntr Z0 (ntr K386.1 P0388))
 show oG p e b T388 m 29 #[sR a1, sJ x0, s2] [(.ref u0388)] _
 refine o_callS X388 j (ct68 u0388 (8000000000 : Int64) (((O_0.keep K386 all0).keep K388 all0)) k P1388 P2388 P3388 P5388 (by decide)) rfl rfl (pL37 rfl) (dc2 15 rfl) 111 112 11 113 ⟨rfl, rfl, rfl, rfl⟩ 0 rfl ?_
 rintro _ T389 L389 X389 ⟨u0389, rfl, M389, K389, P0389, P1389, P2389, P3389⟩
 rw [show (R68_0 (8000000000 : Int64)) = (8 : Int64) from by decide +kernel] at P3389
 have N389 := Fr.app N388 M389
 have l389_0 := (ntr Z0 (ntr (ntr K386.1 K388.1) P0389))
 show oG p e b T389 m 32 #[sR a1, sJ x0, s2] [(.ref u0389)] _
 exact o_retA X389 j (dc2 16 rfl) rfl ⟨u0389, rfl, N389, ((((Keep.refl h0 []).trans K386 all0).trans K388 all0).trans K389 all0), (ntr (ntr K386.1 K388.1) P0389), P1389, P2389, P3389⟩
def H70 (x0 : Int32) : Bool := decide (¬ x0 < (1 : Int32)) && (decide (¬ (61 : Int32) < x0) && ((H69 ((1 : Int64) <<< ((x0 - (1 : Int32)) &&& 0x3f).toInt64)) && true))
theorem ct70 (x0 : Int32) (O_0 : Old Z n0 h0) (k : own_K Z a0 g) (hH : H70 x0 = true) :
 mM1 l ws (oR 9 16 50 143) #[(.int x0)] Z h0 fun v h L => ∃ (u0391 : Addr), v = some (.ref u0391) ∧ Fr n0 L ∧ Keep h0 h [] ∧ h0.size ≤ u0391 ∧ Ee2 Z h u0391 ∧ Ff5 Z h u0391 (.int 0) ∧ Ff4 Z h u0391 (.long 8) := by
 refine o_body own_pn1 k.1 (ef2 _) ?_
 intro p e s m b _ c T0 X0 j e0
 have N0 := Fr.nil n0
 have Z0 := own_Z0 O_0
 obtain ⟨hh0, q0⟩ := o_ad hH
 obtain ⟨hh1, q1⟩ := o_ad q0
 obtain ⟨hh2, q2⟩ := own_and q1
 refine o_iloadN X0 j (dc1 0 rfl) rfl ?_
 refine o_iconstL X0 j (dc1 1 rfl) 1 ?_
 refine o_icmpNo X0 j (dc1 2 rfl) (flt hh0).1 ?_
 refine o_iloadN X0 j (dc1 3 rfl) rfl ?_
 refine o_bipushL X0 j (dc1 4 rfl) 61 ?_
 refine o_icmpYes X0 j (dc1 5 rfl) 25 (flt hh1).2.2.2 ?_
 refine o_getS X0 j (dc1 6 rfl) 5 rfl e0 ((k6 k).ext O_0.2) fun T390 X390 e390 => ?_
 refine o_lconstL X390 j (dc1 7 rfl) 1 ?_
 refine o_iloadN X390 j (dc1 8 rfl) rfl ?_
 refine o_iconstL X390 j (dc1 9 rfl) 1 ?_
 refine o_isub X390 j (dc1 10 rfl) ?_
 refine o_lshl X390 j (dc1 11 rfl) ?_
 refine o_callV X390 j (ct69 (g 51) ((1 : Int64) <<< ((x0 - (1 : Int32)) &&& 0x3f).toInt64) O_0 k (((k25 k).ext O_0.2)) (((k27 k).ext O_0.2)) (((k26 k).ext O_0.2)) hh2) rfl rfl (pL0 rfl) (dc1 12 rfl) 7 8 10 9 12 11 ⟨rfl, rfl, rfl, rfl, rfl, rfl⟩ ((k25 k).ext O_0.2) 0 e390 ?_
 rintro _ T391 L391 X391 ⟨u0391, rfl, M391, K391, P0391, P1391, P2391, P3391⟩
 have N391 := Fr.app N0 M391
 have l391_0 := (ntr Z0 P0391)
 show oG p e b T391 m 36 #[sI x0] [(.ref u0391)] _
 exact o_retA X391 j (dc1 13 rfl) rfl ⟨u0391, rfl, N391, ((Keep.refl h0 []).trans K391 all0), P0391, P1391, P2391, P3391⟩
def H71 (x0 : Int64) : Bool := decide (¬ x0 < (0 : Int64)) && (decide (x0 < (11 : Int64)) && (decide ((x0.toInt32) = (4 : Int32)) && true))
theorem ct71 (x0 : Int64) (O_0 : Old Z n0 h0) (k : own_K Z a0 g) (hH : H71 x0 = true) :
 mM6 l ws (oR 0 0 0 0) #[(.long x0)] Z h0 fun v h L => v = some (.ref (g 14)) ∧ Fr n0 L ∧ h = h0 := by
 refine o_body own_pn6 k.1 (ef3 _) ?_
 intro p e s m b _ c T0 X0 j e0
 obtain ⟨hx, hby, hml, hown, hnm, hret, hlk, hZ, hw⟩ := id j
 have N0 := Fr.nil n0
 have Z0 := own_Z0 O_0
 obtain ⟨hh0, q0⟩ := o_ad hH
 obtain ⟨hh1, q1⟩ := o_ad q0
 obtain ⟨hh2, q2⟩ := o_ad q1
 refine o_lloadN X0 j (dc6 0 rfl) rfl ?_
 refine o_lconstL X0 j (dc6 1 rfl) 0 ?_
 refine o_lcmp X0 j (dc6 2 rfl) ?_
 refine o_ifNo X0 j (dc6 3 rfl) (flt (fun q => hh0 ((lw_lt x0 (0 : Int64)).mp q))).1 ?_
 refine o_lloadN X0 j (dc6 4 rfl) rfl ?_
 refine o_getS X0 j (dc6 5 rfl) 36 rfl e0 ((k0 k).ext O_0.2) fun T392 X392 e392 => ?_
 refine o_len X392 j (dc6 6 rfl) e392 (((k23 k).ext O_0.2)) 11 ?_
 refine o_i2lL X392 j (dc6 7 rfl) 11 ?_
 refine o_lcmp X392 j (dc6 8 rfl) ?_
 refine o_ifNo X392 j (dc6 9 rfl) (tlt ((lw_lt x0 (11 : Int64)).mpr hh1)).2.1 ?_
 refine o_getS X392 j (dc6 10 rfl) 36 rfl e392 ((k0 k).ext O_0.2) fun T393 X393 e393 => ?_
 refine o_lloadN X393 j (dc6 11 rfl) rfl ?_
 refine o_l2i X393 j (dc6 12 rfl) ?_
 refine own_aaload X393 hx hby rfl (dc6 13 rfl).1 (pc' := 22) rfl hZ e393 (((k23 k).ext O_0.2)) (by rw [hh2]; decide) (v := (.ref (g 14))) (by rw [hh2]; rfl) ?_
 exact o_retA X393 j (dc6 14 rfl) rfl ⟨rfl, N0, e393⟩
def H72 (x0 : Int64) : Bool := decide (¬ x0 = (0 : Int64)) && (decide (¬ x0 = (1 : Int64)) && ((H71 x0) && true))
theorem ct72 (a1 : Addr) (x0 : Int64) (O_0 : Old Z n0 h0) (k : own_K Z a0 g) (E_0 : Ee2 Z h0 a1) (F0nanos : Ff5 Z h0 a1 (.int 0)) (F0seconds : Ff4 Z h0 a1 (.long 4)) (hH : H72 x0 = true) :
 mM2 l ws (oR 8 16 50 129) #[(.ref a1), (.long x0)] Z h0 fun v h L => ∃ (u0397 : Addr), v = some (.ref u0397) ∧ Fr n0 L ∧ Keep h0 h [] ∧ h0.size ≤ u0397 ∧ Ee2 Z h u0397 ∧ Ff5 Z h u0397 (.int 0) ∧ Ff4 Z h u0397 (.long 16) := by
 refine o_body own_pn2 k.1 (ef1 _ _) ?_
 intro p e s m b _ c T0 X0 j e0
 have N0 := Fr.nil n0
 have Z0 := own_Z0 O_0
 obtain ⟨hh0, q0⟩ := o_ad hH
 obtain ⟨hh1, q1⟩ := o_ad q0
 obtain ⟨hh2, q2⟩ := own_and q1
 refine o_lloadN X0 j (dc2 0 rfl) rfl ?_
 refine o_lconstL X0 j (dc2 1 rfl) 0 ?_
 refine o_lcmp X0 j (dc2 2 rfl) ?_
 refine o_ifYes X0 j (dc2 3 rfl) 10 (feq (fun q => hh0 ((lw_eq x0 (0 : Int64)).mp q))).2 ?_
 refine o_lloadN X0 j (dc2 4 rfl) rfl ?_
 refine o_lconstL X0 j (dc2 5 rfl) 1 ?_
 refine o_lcmp X0 j (dc2 6 rfl) ?_
 refine o_ifYes X0 j (dc2 7 rfl) 18 (feq (fun q => hh1 ((lw_eq x0 (1 : Int64)).mp q))).2 ?_
 refine o_aloadN X0 j (dc2 10 rfl) rfl rfl ?_
 refine o_callPv X0 j (ct16 a1 O_0 k E_0 (F0nanos) (F0seconds)) rfl rfl (pL36 rfl) (dc2 11 rfl) 27 29 30 28 31 11 ⟨rfl, rfl, rfl, rfl, rfl, rfl⟩ E_0 0 e0 ?_
 rintro _ T394 L394 X394 ⟨u0394, rfl, M394, K394, P0394, P1394, P2394, P3394, P4394, P5394⟩
 have N394 := Fr.app N0 M394
 have l394_0 := (ntr Z0 P0394)
 show oG p e b T394 m 22 #[sR a1, sJ x0, s2] [(.ref u0394)] _
 refine o_lloadN X394 j (dc2 12 rfl) rfl ?_
 refine o_callS X394 j (ct71 x0 ((O_0.keep K394 all0)) k hh2) rfl rfl (pL11 rfl) (dc2 13 rfl) 32 33 34 35 ⟨rfl, rfl, rfl, rfl⟩ 1 rfl ?_
 rintro _ T395 L395 X395 ⟨rfl, M395, e395⟩
 have N395 := Fr.app N394 M395
 show oG p e b T395 m 26 #[sR a1, sJ x0, s2] [(.ref (g 14)), (.ref u0394)] _
 refine o_callV X395 j (ct21 u0394 (g 14) (4 : Int64) ((O_0.keep K394 all0)) k P1394 P2394 P5394 (((k14 k).ext ((O_0.keep K394 all0)).2)) (((k15 k).ext ((O_0.keep K394 all0)).2)) (((k16 k).ext ((O_0.keep K394 all0)).2)) (by decide)) rfl rfl (pL12 rfl) (dc2 14 rfl) 95 96 98 97 99 34 ⟨rfl, rfl, rfl, rfl, rfl, rfl⟩ P1394 0 e395 ?_
 rintro _ T396 L396 X396 ⟨u0396, rfl, M396, K396, P0396, P1396, P2396, P3396, P4396, P5396⟩
 rw [show ((4000000000 : Int64) * (4 : Int64)) = (16000000000 : Int64) from by decide +kernel] at P2396
 have N396 := Fr.app N395 M396
 have l396_0 := (ntr Z0 (ntr K394.1 P0396))
 show oG p e b T396 m 29 #[sR a1, sJ x0, s2] [(.ref u0396)] _
 refine o_callS X396 j (ct68 u0396 (16000000000 : Int64) (((O_0.keep K394 all0).keep K396 all0)) k P1396 P2396 P3396 P5396 (by decide)) rfl rfl (pL37 rfl) (dc2 15 rfl) 111 112 11 113 ⟨rfl, rfl, rfl, rfl⟩ 0 rfl ?_
 rintro _ T397 L397 X397 ⟨u0397, rfl, M397, K397, P0397, P1397, P2397, P3397⟩
 rw [show (R68_0 (16000000000 : Int64)) = (16 : Int64) from by decide +kernel] at P3397
 have N397 := Fr.app N396 M397
 have l397_0 := (ntr Z0 (ntr (ntr K394.1 K396.1) P0397))
 show oG p e b T397 m 32 #[sR a1, sJ x0, s2] [(.ref u0397)] _
 exact o_retA X397 j (dc2 16 rfl) rfl ⟨u0397, rfl, N397, ((((Keep.refl h0 []).trans K394 all0).trans K396 all0).trans K397 all0), (ntr (ntr K394.1 K396.1) P0397), P1397, P2397, P3397⟩
def H73 (x0 : Int32) : Bool := decide (¬ x0 < (1 : Int32)) && (decide (¬ (61 : Int32) < x0) && ((H72 ((1 : Int64) <<< ((x0 - (1 : Int32)) &&& 0x3f).toInt64)) && true))
theorem ct73 (x0 : Int32) (O_0 : Old Z n0 h0) (k : own_K Z a0 g) (hH : H73 x0 = true) :
 mM1 l ws (oR 9 16 50 143) #[(.int x0)] Z h0 fun v h L => ∃ (u0399 : Addr), v = some (.ref u0399) ∧ Fr n0 L ∧ Keep h0 h [] ∧ h0.size ≤ u0399 ∧ Ee2 Z h u0399 ∧ Ff5 Z h u0399 (.int 0) ∧ Ff4 Z h u0399 (.long 16) := by
 refine o_body own_pn1 k.1 (ef2 _) ?_
 intro p e s m b _ c T0 X0 j e0
 have N0 := Fr.nil n0
 have Z0 := own_Z0 O_0
 obtain ⟨hh0, q0⟩ := o_ad hH
 obtain ⟨hh1, q1⟩ := o_ad q0
 obtain ⟨hh2, q2⟩ := own_and q1
 refine o_iloadN X0 j (dc1 0 rfl) rfl ?_
 refine o_iconstL X0 j (dc1 1 rfl) 1 ?_
 refine o_icmpNo X0 j (dc1 2 rfl) (flt hh0).1 ?_
 refine o_iloadN X0 j (dc1 3 rfl) rfl ?_
 refine o_bipushL X0 j (dc1 4 rfl) 61 ?_
 refine o_icmpYes X0 j (dc1 5 rfl) 25 (flt hh1).2.2.2 ?_
 refine o_getS X0 j (dc1 6 rfl) 5 rfl e0 ((k6 k).ext O_0.2) fun T398 X398 e398 => ?_
 refine o_lconstL X398 j (dc1 7 rfl) 1 ?_
 refine o_iloadN X398 j (dc1 8 rfl) rfl ?_
 refine o_iconstL X398 j (dc1 9 rfl) 1 ?_
 refine o_isub X398 j (dc1 10 rfl) ?_
 refine o_lshl X398 j (dc1 11 rfl) ?_
 refine o_callV X398 j (ct72 (g 51) ((1 : Int64) <<< ((x0 - (1 : Int32)) &&& 0x3f).toInt64) O_0 k (((k25 k).ext O_0.2)) (((k27 k).ext O_0.2)) (((k26 k).ext O_0.2)) hh2) rfl rfl (pL0 rfl) (dc1 12 rfl) 7 8 10 9 12 11 ⟨rfl, rfl, rfl, rfl, rfl, rfl⟩ ((k25 k).ext O_0.2) 0 e398 ?_
 rintro _ T399 L399 X399 ⟨u0399, rfl, M399, K399, P0399, P1399, P2399, P3399⟩
 have N399 := Fr.app N0 M399
 have l399_0 := (ntr Z0 P0399)
 show oG p e b T399 m 36 #[sI x0] [(.ref u0399)] _
 exact o_retA X399 j (dc1 13 rfl) rfl ⟨u0399, rfl, N399, ((Keep.refl h0 []).trans K399 all0), P0399, P1399, P2399, P3399⟩
def H74 (x0 : Int64) : Bool := decide (¬ x0 < (0 : Int64)) && (decide (x0 < (11 : Int64)) && (decide ((x0.toInt32) = (8 : Int32)) && true))
theorem ct74 (x0 : Int64) (O_0 : Old Z n0 h0) (k : own_K Z a0 g) (hH : H74 x0 = true) :
 mM6 l ws (oR 0 0 0 0) #[(.long x0)] Z h0 fun v h L => v = some (.ref (g 26)) ∧ Fr n0 L ∧ h = h0 := by
 refine o_body own_pn6 k.1 (ef3 _) ?_
 intro p e s m b _ c T0 X0 j e0
 obtain ⟨hx, hby, hml, hown, hnm, hret, hlk, hZ, hw⟩ := id j
 have N0 := Fr.nil n0
 have Z0 := own_Z0 O_0
 obtain ⟨hh0, q0⟩ := o_ad hH
 obtain ⟨hh1, q1⟩ := o_ad q0
 obtain ⟨hh2, q2⟩ := o_ad q1
 refine o_lloadN X0 j (dc6 0 rfl) rfl ?_
 refine o_lconstL X0 j (dc6 1 rfl) 0 ?_
 refine o_lcmp X0 j (dc6 2 rfl) ?_
 refine o_ifNo X0 j (dc6 3 rfl) (flt (fun q => hh0 ((lw_lt x0 (0 : Int64)).mp q))).1 ?_
 refine o_lloadN X0 j (dc6 4 rfl) rfl ?_
 refine o_getS X0 j (dc6 5 rfl) 36 rfl e0 ((k0 k).ext O_0.2) fun T400 X400 e400 => ?_
 refine o_len X400 j (dc6 6 rfl) e400 (((k23 k).ext O_0.2)) 11 ?_
 refine o_i2lL X400 j (dc6 7 rfl) 11 ?_
 refine o_lcmp X400 j (dc6 8 rfl) ?_
 refine o_ifNo X400 j (dc6 9 rfl) (tlt ((lw_lt x0 (11 : Int64)).mpr hh1)).2.1 ?_
 refine o_getS X400 j (dc6 10 rfl) 36 rfl e400 ((k0 k).ext O_0.2) fun T401 X401 e401 => ?_
 refine o_lloadN X401 j (dc6 11 rfl) rfl ?_
 refine o_l2i X401 j (dc6 12 rfl) ?_
 refine own_aaload X401 hx hby rfl (dc6 13 rfl).1 (pc' := 22) rfl hZ e401 (((k23 k).ext O_0.2)) (by rw [hh2]; decide) (v := (.ref (g 26))) (by rw [hh2]; rfl) ?_
 exact o_retA X401 j (dc6 14 rfl) rfl ⟨rfl, N0, e401⟩
def H75 (x0 : Int64) : Bool := decide (¬ x0 = (0 : Int64)) && (decide (¬ x0 = (1 : Int64)) && ((H74 x0) && true))
theorem ct75 (a1 : Addr) (x0 : Int64) (O_0 : Old Z n0 h0) (k : own_K Z a0 g) (E_0 : Ee2 Z h0 a1) (F0nanos : Ff5 Z h0 a1 (.int 0)) (F0seconds : Ff4 Z h0 a1 (.long 4)) (hH : H75 x0 = true) :
 mM2 l ws (oR 8 16 50 129) #[(.ref a1), (.long x0)] Z h0 fun v h L => ∃ (u0405 : Addr), v = some (.ref u0405) ∧ Fr n0 L ∧ Keep h0 h [] ∧ h0.size ≤ u0405 ∧ Ee2 Z h u0405 ∧ Ff5 Z h u0405 (.int 0) ∧ Ff4 Z h u0405 (.long 32) := by
 refine o_body own_pn2 k.1 (ef1 _ _) ?_
 intro p e s m b _ c T0 X0 j e0
 have N0 := Fr.nil n0
 have Z0 := own_Z0 O_0
 obtain ⟨hh0, q0⟩ := o_ad hH
 obtain ⟨hh1, q1⟩ := o_ad q0
 obtain ⟨hh2, q2⟩ := own_and q1
 refine o_lloadN X0 j (dc2 0 rfl) rfl ?_
 refine o_lconstL X0 j (dc2 1 rfl) 0 ?_
 refine o_lcmp X0 j (dc2 2 rfl) ?_
 refine o_ifYes X0 j (dc2 3 rfl) 10 (feq (fun q => hh0 ((lw_eq x0 (0 : Int64)).mp q))).2 ?_
 refine o_lloadN X0 j (dc2 4 rfl) rfl ?_
 refine o_lconstL X0 j (dc2 5 rfl) 1 ?_
 refine o_lcmp X0 j (dc2 6 rfl) ?_
 refine o_ifYes X0 j (dc2 7 rfl) 18 (feq (fun q => hh1 ((lw_eq x0 (1 : Int64)).mp q))).2 ?_
 refine o_aloadN X0 j (dc2 10 rfl) rfl rfl ?_
 refine o_callPv X0 j (ct16 a1 O_0 k E_0 (F0nanos) (F0seconds)) rfl rfl (pL36 rfl) (dc2 11 rfl) 27 29 30 28 31 11 ⟨rfl, rfl, rfl, rfl, rfl, rfl⟩ E_0 0 e0 ?_
 rintro _ T402 L402 X402 ⟨u0402, rfl, M402, K402, P0402, P1402, P2402, P3402, P4402, P5402⟩
 have N402 := Fr.app N0 M402
 have l402_0 := (ntr Z0 P0402)
 show oG p e b T402 m 22 #[sR a1, sJ x0, s2] [(.ref u0402)] _
 refine o_lloadN X402 j (dc2 12 rfl) rfl ?_
 refine o_callS X402 j (ct74 x0 ((O_0.keep K402 all0)) k hh2) rfl rfl (pL11 rfl) (dc2 13 rfl) 32 33 34 35 ⟨rfl, rfl, rfl, rfl⟩ 1 rfl ?_
 rintro _ T403 L403 X403 ⟨rfl, M403, e403⟩
 have N403 := Fr.app N402 M403
 show oG p e b T403 m 26 #[sR a1, sJ x0, s2] [(.ref (g 26)), (.ref u0402)] _
 refine o_callV X403 j (ct21 u0402 (g 26) (8 : Int64) ((O_0.keep K402 all0)) k P1402 P2402 P5402 (((k17 k).ext ((O_0.keep K402 all0)).2)) (((k18 k).ext ((O_0.keep K402 all0)).2)) (((k19 k).ext ((O_0.keep K402 all0)).2)) (by decide)) rfl rfl (pL12 rfl) (dc2 14 rfl) 95 96 98 97 99 34 ⟨rfl, rfl, rfl, rfl, rfl, rfl⟩ P1402 0 e403 ?_
 rintro _ T404 L404 X404 ⟨u0404, rfl, M404, K404, P0404, P1404, P2404, P3404, P4404, P5404⟩
 rw [show ((4000000000 : Int64) * (8 : Int64)) = (32000000000 : Int64) from by decide +kernel] at P2404
 have N404 := Fr.app N403 M404
 have l404_0 := (ntr Z0 (ntr K402.1 P0404))
 show oG p e b T404 m 29 #[sR a1, sJ x0, s2] [(.ref u0404)] _
 refine o_callS X404 j (ct68 u0404 (32000000000 : Int64) (((O_0.keep K402 all0).keep K404 all0)) k P1404 P2404 P3404 P5404 (by decide)) rfl rfl (pL37 rfl) (dc2 15 rfl) 111 112 11 113 ⟨rfl, rfl, rfl, rfl⟩ 0 rfl ?_
 rintro _ T405 L405 X405 ⟨u0405, rfl, M405, K405, P0405, P1405, P2405, P3405⟩
 rw [show (R68_0 (32000000000 : Int64)) = (32 : Int64) from by decide +kernel] at P3405
 have N405 := Fr.app N404 M405
 have l405_0 := (ntr Z0 (ntr (ntr K402.1 K404.1) P0405))
 show oG p e b T405 m 32 #[sR a1, sJ x0, s2] [(.ref u0405)] _
 exact o_retA X405 j (dc2 16 rfl) rfl ⟨u0405, rfl, N405, ((((Keep.refl h0 []).trans K402 all0).trans K404 all0).trans K405 all0), (ntr (ntr K402.1 K404.1) P0405), P1405, P2405, P3405⟩
def H76 (x0 : Int32) : Bool := decide (¬ x0 < (1 : Int32)) && (decide (¬ (61 : Int32) < x0) && ((H75 ((1 : Int64) <<< ((x0 - (1 : Int32)) &&& 0x3f).toInt64)) && true))
theorem ct76 (x0 : Int32) (O_0 : Old Z n0 h0) (k : own_K Z a0 g) (hH : H76 x0 = true) :
 mM1 l ws (oR 9 16 50 143) #[(.int x0)] Z h0 fun v h L => ∃ (u0407 : Addr), v = some (.ref u0407) ∧ Fr n0 L ∧ Keep h0 h [] ∧ h0.size ≤ u0407 ∧ Ee2 Z h u0407 ∧ Ff5 Z h u0407 (.int 0) ∧ Ff4 Z h u0407 (.long 32) := by
 refine o_body own_pn1 k.1 (ef2 _) ?_
 intro p e s m b _ c T0 X0 j e0
 have N0 := Fr.nil n0
 have Z0 := own_Z0 O_0
 obtain ⟨hh0, q0⟩ := o_ad hH
 obtain ⟨hh1, q1⟩ := o_ad q0
 obtain ⟨hh2, q2⟩ := own_and q1
 refine o_iloadN X0 j (dc1 0 rfl) rfl ?_
 refine o_iconstL X0 j (dc1 1 rfl) 1 ?_
 refine o_icmpNo X0 j (dc1 2 rfl) (flt hh0).1 ?_
 refine o_iloadN X0 j (dc1 3 rfl) rfl ?_
 refine o_bipushL X0 j (dc1 4 rfl) 61 ?_
 refine o_icmpYes X0 j (dc1 5 rfl) 25 (flt hh1).2.2.2 ?_
 refine o_getS X0 j (dc1 6 rfl) 5 rfl e0 ((k6 k).ext O_0.2) fun T406 X406 e406 => ?_
 refine o_lconstL X406 j (dc1 7 rfl) 1 ?_
 refine o_iloadN X406 j (dc1 8 rfl) rfl ?_
 refine o_iconstL X406 j (dc1 9 rfl) 1 ?_
 refine o_isub X406 j (dc1 10 rfl) ?_
 refine o_lshl X406 j (dc1 11 rfl) ?_
 refine o_callV X406 j (ct75 (g 51) ((1 : Int64) <<< ((x0 - (1 : Int32)) &&& 0x3f).toInt64) O_0 k (((k25 k).ext O_0.2)) (((k27 k).ext O_0.2)) (((k26 k).ext O_0.2)) hh2) rfl rfl (pL0 rfl) (dc1 12 rfl) 7 8 10 9 12 11 ⟨rfl, rfl, rfl, rfl, rfl, rfl⟩ ((k25 k).ext O_0.2) 0 e406 ?_
 rintro _ T407 L407 X407 ⟨u0407, rfl, M407, K407, P0407, P1407, P2407, P3407⟩
 have N407 := Fr.app N0 M407
 have l407_0 := (ntr Z0 P0407)
 show oG p e b T407 m 36 #[sI x0] [(.ref u0407)] _
 exact o_retA X407 j (dc1 13 rfl) rfl ⟨u0407, rfl, N407, ((Keep.refl h0 []).trans K407 all0), P0407, P1407, P2407, P3407⟩
theorem ct77 (a1 : Addr) (x0 : Int64) (x1 : Int32) (O_0 : Old Z n0 h0) (k : own_K Z a0 g) (E_0 : Ee1 Z h0 a1) (F0intCompact : Ff2 Z h0 a1 (.long 0)) (F0intVal : Ff6 Z h0 a1 .null) (F0precision : Ff7 Z h0 a1 (.int 0)) (F0scale : Ff3 Z h0 a1 (.int 0)) (G_0 : n0 ≤ a1) :
 mM16 l ws (oR 2 0 0 24) #[(.ref a1), .null, (.long x0), (.int x1), (.int 0)] Z h0 fun v h L => v = none ∧ Fr n0 L ∧ Keep h0 h [a1] ∧ Ff2 Z h a1 (.long x0) ∧ Ff6 Z h a1 .null ∧ Ff7 Z h a1 (.int 0) ∧ Ff3 Z h a1 (.int x1) := by
 refine o_body own_pn16 k.1 (ef9 _ _ _ _) ?_
 intro p e s m b _ c T0 X0 j e0
 have N0 := Fr.nil n0
 have Z0 := own_Z0 O_0
 refine o_aloadN X0 j (dc16 0 rfl) rfl rfl ?_
 refine o_callSp X0 j (ct10 a1 O_0 k E_0) rfl rfl (pL3 rfl) (dc16 1 rfl) 82 83 87 86 ⟨rfl, rfl, rfl, rfl⟩ 0 e0 ?_
 rintro _ T408 L408 X408 ⟨rfl, M408, e408⟩
 have N408 := Fr.app N0 M408
 show oG p e b T408 m 4 #[sR a1, .val .null, sJ x0, s2, sI x1, sI 0] [] _
 refine o_aloadN X408 j (dc16 2 rfl) rfl rfl ?_
 refine o_iload X408 j (dc16 3 rfl) rfl ?_
 refine o_putf X408 j (dc16 4 rfl) 52 53 77 ⟨rfl, rfl, rfl⟩ .int e408 F0scale E_0 fun T409 h409 X409 e409 W409 => ?_
 have F409 := (F0scale).same W409
 have N409 := Fr.snoc X409 N408 G_0
 refine o_aloadN X409 j (dc16 5 rfl) rfl rfl ?_
 refine o_iload X409 j (dc16 6 rfl) rfl ?_
 have y411 := (F0precision.other W409 (Or.inr (sn0 k)))
 refine o_put X409 j (dc16 7 rfl) 91 92 77 ⟨rfl, rfl, rfl⟩ .int e409 y411 (E_0.wr W409) fun T410 h410 X410 e410 W410 => ?_
 have F410 := y411.same W410
 have N410 := Fr.snoc X410 N409 G_0
 refine o_aloadN X410 j (dc16 8 rfl) rfl rfl ?_
 refine o_lloadN X410 j (dc16 9 rfl) rfl ?_
 have y413 := ((F0intCompact.other W409 (Or.inr (sn1 k))).other W410 (Or.inr (sn2 k)))
 refine o_putf X410 j (dc16 10 rfl) 49 50 77 ⟨rfl, rfl, rfl⟩ .long e410 y413 ((E_0.wr W409).wr W410) fun T412 h412 X412 e412 W412 => ?_
 have F412 := y413.same W412
 have N412 := Fr.snoc X412 N410 G_0
 refine o_aloadN X412 j (dc16 11 rfl) rfl rfl ?_
 refine o_aloadN X412 j (dc16 12 rfl) rfl rfl ?_
 have y415 := (((F0intVal.other W409 (Or.inr (sn3 k))).other W410 (Or.inr (sn4 k))).other W412 (Or.inr (sn5 k)))
 refine o_putf X412 j (dc16 13 rfl) 93 94 77 ⟨rfl, rfl, rfl⟩ (.object "java/math/BigInteger") e412 y415 (((E_0.wr W409).wr W410).wr W412) fun T414 h414 X414 e414 W414 => ?_
 have F414 := y415.same W414
 have N414 := Fr.snoc X414 N412 G_0
 have y416 := (F412.other W414 (Or.inr (sn6 k)))
 have y417 := ((F410.other W412 (Or.inr (sn7 k))).other W414 (Or.inr (sn8 k)))
 have y418 := (((F409.other W410 (Or.inr (sn9 k))).other W412 (Or.inr (sn10 k))).other W414 (Or.inr (sn11 k)))
 exact o_retV X414 j (dc16 14 rfl) e414 ⟨rfl, N414, (((((Keep.refl h0 [a1]).wr W409 (mI 0 rfl)).wr W410 (mI 0 rfl)).wr W412 (mI 0 rfl)).wr W414 (mI 0 rfl)), y416, F414, y417, y418⟩
def H78 (x0 : Int64) : Bool := decide (¬ x0 < (0 : Int64)) && (decide (¬ x0 < (11 : Int64)) && (decide (¬ x0 = (-9223372036854775808 : Int64)) && true))
theorem ct78 (x0 : Int64) (O_0 : Old Z n0 h0) (k : own_K Z a0 g) (hH : H78 x0 = true) :
 mM6 l ws (oR 3 1 5 42) #[(.long x0)] Z h0 fun v h L => ∃ (b420 : Addr), v = some (.ref b420) ∧ Fr n0 L ∧ Keep h0 h [] ∧ h0.size ≤ b420 ∧ Ee1 Z h b420 ∧ Ff2 Z h b420 (.long x0) ∧ Ff6 Z h b420 .null ∧ Ff7 Z h b420 (.int 0) ∧ Ff3 Z h b420 (.int 0) := by
 refine o_body own_pn6 k.1 (ef3 _) ?_
 intro p e s m b _ c T0 X0 j e0
 have N0 := Fr.nil n0
 have Z0 := own_Z0 O_0
 obtain ⟨hh0, q0⟩ := o_ad hH
 obtain ⟨hh1, q1⟩ := o_ad q0
 obtain ⟨hh2, q2⟩ := o_ad q1
 refine o_lloadN X0 j (dc6 0 rfl) rfl ?_
 refine o_lconstL X0 j (dc6 1 rfl) 0 ?_
 refine o_lcmp X0 j (dc6 2 rfl) ?_
 refine o_ifNo X0 j (dc6 3 rfl) (flt (fun q => hh0 ((lw_lt x0 (0 : Int64)).mp q))).1 ?_
 refine o_lloadN X0 j (dc6 4 rfl) rfl ?_
 refine o_getS X0 j (dc6 5 rfl) 36 rfl e0 ((k0 k).ext O_0.2) fun T419 X419 e419 => ?_
 refine o_len X419 j (dc6 6 rfl) e419 (((k23 k).ext O_0.2)) 11 ?_
 refine o_i2lL X419 j (dc6 7 rfl) 11 ?_
 refine o_lcmp X419 j (dc6 8 rfl) ?_
 refine o_ifYes X419 j (dc6 9 rfl) 23 (flt (fun q => hh1 ((lw_lt x0 (11 : Int64)).mp q))).2.1 ?_
 refine o_lloadN X419 j (dc6 15 rfl) rfl ?_
 refine o_ldc2 X419 j (dc6 16 rfl) 51 rfl ?_
 refine o_lcmp X419 j (dc6 17 rfl) ?_
 refine o_ifNo X419 j (dc6 18 rfl) (feq (fun q => hh2 ((lw_eq x0 (-9223372036854775808 : Int64)).mp q))).1 ?_
 refine o_new X419 j (dc6 19 rfl) 76 77 34 ⟨rfl, rfl, rfl⟩ e419 fun T420 h420 b420 X420 e420 g420 E420 A420 D420 => ?_
 have F420_intCompact : Ff2 Z h420 b420 (.long 0) := D420 (Or.inr (ot k 50 rfl)) (ty := .long) (by decide)
 have F420_scale : Ff3 Z h420 b420 (.int 0) := D420 (Or.inr (ot k 53 rfl)) (ty := .int) (by decide)
 have F420_precision : Ff7 Z h420 b420 (.int 0) := D420 (Or.inl (ot k 92 rfl)) (ty := .int) (by decide)
 have F420_intVal : Ff6 Z h420 b420 .null := D420 (Or.inr (ot k 94 rfl)) (ty := (.object "java/math/BigInteger")) (by decide)
 have z420 := ntr (Nat.le_refl _) (nqs g420)
 have l420 := (ntr Z0 z420)
 refine o_dup X420 j (dc6 20 rfl) rfl ?_
 refine o_aconst_null X420 j (dc6 21 rfl) ?_
 refine o_lloadN X420 j (dc6 22 rfl) rfl ?_
 refine o_iconstL X420 j (dc6 23 rfl) 0 ?_
 refine o_iconstL X420 j (dc6 24 rfl) 0 ?_
 refine o_callSp X420 j (ct77 b420 x0 (0 : Int32) ((O_0.ext E420)) k A420 (F420_intCompact) (F420_intVal) (F420_precision) (F420_scale) l420) rfl rfl (pL4 rfl) (dc6 25 rfl) 78 79 81 34 ⟨rfl, rfl, rfl, rfl⟩ 1 e420 ?_
 rintro _ T421 L421 X421 ⟨rfl, M421, K421, P0421, P1421, P2421, P3421⟩
 have N421 := Fr.app N0 M421
 show oG p e b T421 m 42 #[sJ x0, s2] [(.ref b420)] _
 exact o_retA X421 j (dc6 26 rfl) rfl ⟨b420, rfl, N421, (((Keep.refl h0 []).ext E420).trans K421 (allS (Or.inr z420) all0)), z420, (A420.keep K421), P0421, P1421, P2421, P3421⟩
def H79 (x0 : Int64) : Bool := decide (¬ x0 < (0 : Int64)) && true
theorem ct79 (x0 : Int64) (O_0 : Old Z n0 h0) (k : own_K Z a0 g) (hH : H79 x0 = true) :
 mM13 l ws (oR 0 0 0 0) #[(.long x0)] Z h0 fun v h L => v = some (.long x0) ∧ Fr n0 L ∧ h = h0 := by
 refine o_body own_pn13 k.1 (ef3 _) ?_
 intro p e s m b _ c T0 X0 j e0
 have N0 := Fr.nil n0
 have Z0 := own_Z0 O_0
 obtain ⟨hh0, q0⟩ := o_ad hH
 refine o_lloadN X0 j (dc13 0 rfl) rfl ?_
 refine o_lconstL X0 j (dc13 1 rfl) 0 ?_
 refine o_lcmp X0 j (dc13 2 rfl) ?_
 refine o_ifYes X0 j (dc13 3 rfl) 11 (flt (fun q => hh0 ((lw_lt x0 (0 : Int64)).mp q))).2.1 ?_
 refine o_lloadN X0 j (dc13 4 rfl) rfl ?_
 exact o_retJ X0 j (dc13 5 rfl) rfl ⟨rfl, N0, e0⟩
def H80 (x0 : Int64) : Bool := (H79 x0) && (decide (¬ ((((4000000000 : Int64) ||| x0).toUInt64 >>> ((31 : Int32) &&& 0x3f).toInt64.toUInt64).toInt64) = (0 : Int64)) && (decide (¬ x0 = (0 : Int64)) && (decide (x0 ≠ 0) && (decide ((((4000000000 : Int64) * x0) / x0) = (4000000000 : Int64)) && true))))
theorem ct80 (x0 : Int64) (O_0 : Old Z n0 h0) (k : own_K Z a0 g) (hH : H80 x0 = true) :
 mM22 l ws (oR 1 0 0 13) #[(.long 4000000000), (.long x0)] Z h0 fun v h L => v = some (.long ((4000000000 : Int64) * x0)) ∧ Fr n0 L ∧ h = h0 := by
 refine o_body own_pn22 k.1 (ef14 _ _) ?_
 intro p e s m b _ c T0 X0 j e0
 have N0 := Fr.nil n0
 have Z0 := own_Z0 O_0
 obtain ⟨hh0, q0⟩ := own_and hH
 obtain ⟨hh1, q1⟩ := o_ad q0
 obtain ⟨hh2, q2⟩ := o_ad q1
 obtain ⟨hh3, q3⟩ := o_ad q2
 obtain ⟨hh4, q4⟩ := o_ad q3
 refine o_lloadN X0 j (dc22 0 rfl) rfl ?_
 refine o_lloadN X0 j (dc22 1 rfl) rfl ?_
 refine o_lmul X0 j (dc22 2 rfl) ?_
 refine o_lstore X0 j (dc22 3 rfl) (Ls' := #[sJ 4000000000, s2, sJ x0, s2, sJ ((4000000000 : Int64) * x0), s2, sU, sU, sU, sU]) rfl ?_
 refine o_lloadN X0 j (dc22 4 rfl) rfl ?_
 refine o_callS X0 j (ct6 (4000000000 : Int64) O_0 k (by decide)) rfl rfl (pL2 rfl) (dc22 5 rfl) 65 66 67 68 ⟨rfl, rfl, rfl, rfl⟩ 0 e0 ?_
 rintro _ T422 L422 X422 ⟨rfl, M422, e422⟩
 have N422 := Fr.app N0 M422
 show oG p e b T422 m 9 #[sJ 4000000000, s2, sJ x0, s2, sJ ((4000000000 : Int64) * x0), s2, sU, sU, sU, sU] [(.long 4000000000)] _
 refine o_lstore X422 j (dc22 6 rfl) (Ls' := #[sJ 4000000000, s2, sJ x0, s2, sJ ((4000000000 : Int64) * x0), s2, sJ 4000000000, s2, sU, sU]) rfl ?_
 refine o_lloadN X422 j (dc22 7 rfl) rfl ?_
 refine o_callS X422 j (ct79 x0 O_0 k hh0) rfl rfl (pL2 rfl) (dc22 8 rfl) 65 66 67 68 ⟨rfl, rfl, rfl, rfl⟩ 0 e422 ?_
 rintro _ T423 L423 X423 ⟨rfl, M423, e423⟩
 have N423 := Fr.app N422 M423
 show oG p e b T423 m 15 #[sJ 4000000000, s2, sJ x0, s2, sJ ((4000000000 : Int64) * x0), s2, sJ 4000000000, s2, sU, sU] [(.long x0)] _
 refine o_lstore X423 j (dc22 9 rfl) (Ls' := #[sJ 4000000000, s2, sJ x0, s2, sJ ((4000000000 : Int64) * x0), s2, sJ 4000000000, s2, sJ x0, s2]) rfl ?_
 refine o_lload X423 j (dc22 10 rfl) rfl ?_
 refine o_lload X423 j (dc22 11 rfl) rfl ?_
 refine o_lor X423 j (dc22 12 rfl) ?_
 refine o_bipushL X423 j (dc22 13 rfl) 31 ?_
 refine o_lushr X423 j (dc22 14 rfl) ?_
 refine o_lconstL X423 j (dc22 15 rfl) 0 ?_
 refine o_lcmp X423 j (dc22 16 rfl) ?_
 refine o_ifNo X423 j (dc22 17 rfl) (feq (fun q => hh1 ((lw_eq ((((4000000000 : Int64) ||| x0).toUInt64 >>> ((31 : Int32) &&& 0x3f).toInt64.toUInt64).toInt64) (0 : Int64)).mp q))).1 ?_
 refine o_lloadN X423 j (dc22 18 rfl) rfl ?_
 refine o_lconstL X423 j (dc22 19 rfl) 0 ?_
 refine o_lcmp X423 j (dc22 20 rfl) ?_
 refine o_ifNo X423 j (dc22 21 rfl) (feq (fun q => hh2 ((lw_eq x0 (0 : Int64)).mp q))).1 ?_
 refine o_lload X423 j (dc22 22 rfl) rfl ?_
 refine o_lloadN X423 j (dc22 23 rfl) rfl ?_
 refine o_ldiv X423 j (dc22 24 rfl) hh3 ?_
 refine o_lloadN X423 j (dc22 25 rfl) rfl ?_
 refine o_lcmp X423 j (dc22 26 rfl) ?_
 refine o_ifNo X423 j (dc22 27 rfl) (teq ((lw_eq (((4000000000 : Int64) * x0) / x0) (4000000000 : Int64)).mpr hh4)).2 ?_
 refine o_lload X423 j (dc22 28 rfl) rfl ?_
 exact o_retJ X423 j (dc22 29 rfl) rfl ⟨rfl, N423, e423⟩
def H81 (x0 : Int64) : Bool := decide (¬ x0 = (0 : Int64)) && (decide (¬ x0 = (-9223372036854775808 : Int64)) && true)
theorem ct81 (x0 : Int64) (O_0 : Old Z n0 h0) (k : own_K Z a0 g) (hH : H81 x0 = true) :
 mM7 l ws (oR 3 1 5 42) #[(.long x0), (.int 9)] Z h0 fun v h L => ∃ (b424 : Addr), v = some (.ref b424) ∧ Fr n0 L ∧ Keep h0 h [] ∧ h0.size ≤ b424 ∧ Ee1 Z h b424 ∧ Ff2 Z h b424 (.long x0) ∧ Ff6 Z h b424 .null ∧ Ff7 Z h b424 (.int 0) ∧ Ff3 Z h b424 (.int 9) := by
 refine o_body own_pn7 k.1 (ef4 _ _) ?_
 intro p e s m b _ c T0 X0 j e0
 have N0 := Fr.nil n0
 have Z0 := own_Z0 O_0
 obtain ⟨hh0, q0⟩ := o_ad hH
 obtain ⟨hh1, q1⟩ := o_ad q0
 refine o_iloadN X0 j (dc7 0 rfl) rfl ?_
 refine o_ifYesD X0 j (dc7 1 rfl) 9 ?_
 refine o_lloadN X0 j (dc7 2 rfl) rfl ?_
 refine o_lconstL X0 j (dc7 3 rfl) 0 ?_
 refine o_lcmp X0 j (dc7 4 rfl) ?_
 refine o_ifYes X0 j (dc7 5 rfl) 20 (feq (fun q => hh0 ((lw_eq x0 (0 : Int64)).mp q))).2 ?_
 refine o_new X0 j (dc7 9 rfl) 76 77 34 ⟨rfl, rfl, rfl⟩ e0 fun T424 h424 b424 X424 e424 g424 E424 A424 D424 => ?_
 have F424_intCompact : Ff2 Z h424 b424 (.long 0) := D424 (Or.inr (ot k 50 rfl)) (ty := .long) (by decide)
 have F424_scale : Ff3 Z h424 b424 (.int 0) := D424 (Or.inr (ot k 53 rfl)) (ty := .int) (by decide)
 have F424_precision : Ff7 Z h424 b424 (.int 0) := D424 (Or.inl (ot k 92 rfl)) (ty := .int) (by decide)
 have F424_intVal : Ff6 Z h424 b424 .null := D424 (Or.inr (ot k 94 rfl)) (ty := (.object "java/math/BigInteger")) (by decide)
 have z424 := ntr (Nat.le_refl _) (nqs g424)
 have l424 := (ntr Z0 z424)
 refine o_dup X424 j (dc7 10 rfl) rfl ?_
 refine o_lloadN X424 j (dc7 11 rfl) rfl ?_
 refine o_ldc2 X424 j (dc7 12 rfl) 51 rfl ?_
 refine o_lcmp X424 j (dc7 13 rfl) ?_
 refine o_ifYes X424 j (dc7 14 rfl) 38 (feq (fun q => hh1 ((lw_eq x0 (-9223372036854775808 : Int64)).mp q))).2 ?_
 refine o_aconst_null X424 j (dc7 15 rfl) ?_
 refine o_lloadN X424 j (dc7 16 rfl) rfl ?_
 refine o_iloadN X424 j (dc7 17 rfl) rfl ?_
 refine o_iconstL X424 j (dc7 18 rfl) 0 ?_
 refine o_callSp X424 j (ct77 b424 x0 (9 : Int32) ((O_0.ext E424)) k A424 (F424_intCompact) (F424_intVal) (F424_precision) (F424_scale) l424) rfl rfl (pL4 rfl) (dc7 19 rfl) 78 79 81 34 ⟨rfl, rfl, rfl, rfl⟩ 1 e424 ?_
 rintro _ T425 L425 X425 ⟨rfl, M425, K425, P0425, P1425, P2425, P3425⟩
 have N425 := Fr.app N0 M425
 show oG p e b T425 m 45 #[sJ x0, s2, sI 9] [(.ref b424)] _
 exact o_retA X425 j (dc7 20 rfl) rfl ⟨b424, rfl, N425, (((Keep.refl h0 []).ext E424).trans K425 (allS (Or.inr z424) all0)), z424, (A424.keep K425), P0425, P1425, P2425, P3425⟩
def H82 (x0 : Int64) : Bool := (H80 x0) && (decide (¬ ((4000000000 : Int64) * x0) = (-9223372036854775808 : Int64)) && ((H81 ((4000000000 : Int64) * x0)) && true))
theorem ct82 (x0 : Int64) (O_0 : Old Z n0 h0) (k : own_K Z a0 g) (hH : H82 x0 = true) :
 mM21 l ws (oR 4 1 5 56) #[(.long 4000000000), (.long x0), (.int 9)] Z h0 fun v h L => ∃ (u0427 : Addr), v = some (.ref u0427) ∧ Fr n0 L ∧ Keep h0 h [] ∧ h0.size ≤ u0427 ∧ Ee1 Z h u0427 ∧ Ff2 Z h u0427 (.long ((4000000000 : Int64) * x0)) ∧ Ff6 Z h u0427 .null ∧ Ff7 Z h u0427 (.int 0) ∧ Ff3 Z h u0427 (.int 9) := by
 refine o_body own_pn21 k.1 (ef10 _ _ _) ?_
 intro p e s m b _ c T0 X0 j e0
 have N0 := Fr.nil n0
 have Z0 := own_Z0 O_0
 obtain ⟨hh0, q0⟩ := own_and hH
 obtain ⟨hh1, q1⟩ := o_ad q0
 obtain ⟨hh2, q2⟩ := own_and q1
 refine o_lloadN X0 j (dc21 0 rfl) rfl ?_
 refine o_lloadN X0 j (dc21 1 rfl) rfl ?_
 refine o_callS X0 j (ct80 x0 O_0 k hh0) rfl rfl (pL5 rfl) (dc21 2 rfl) 108 109 34 110 ⟨rfl, rfl, rfl, rfl⟩ 0 e0 ?_
 rintro _ T426 L426 X426 ⟨rfl, M426, e426⟩
 have N426 := Fr.app N0 M426
 show oG p e b T426 m 5 #[sJ 4000000000, s2, sJ x0, s2, sI 9, sU, sU] [(.long ((4000000000 : Int64) * x0))] _
 refine o_lstore X426 j (dc21 3 rfl) (Ls' := #[sJ 4000000000, s2, sJ x0, s2, sI 9, sJ ((4000000000 : Int64) * x0), s2]) rfl ?_
 refine o_lload X426 j (dc21 4 rfl) rfl ?_
 refine o_ldc2 X426 j (dc21 5 rfl) 51 rfl ?_
 refine o_lcmp X426 j (dc21 6 rfl) ?_
 refine o_ifNo X426 j (dc21 7 rfl) (feq (fun q => hh1 ((lw_eq ((4000000000 : Int64) * x0) (-9223372036854775808 : Int64)).mp q))).1 ?_
 refine o_lload X426 j (dc21 8 rfl) rfl ?_
 refine o_iload X426 j (dc21 9 rfl) rfl ?_
 refine o_callS X426 j (ct81 ((4000000000 : Int64) * x0) O_0 k hh2) rfl rfl (pL6 rfl) (dc21 10 rfl) 75 38 34 39 ⟨rfl, rfl, rfl, rfl⟩ 0 e426 ?_
 rintro _ T427 L427 X427 ⟨u0427, rfl, M427, K427, P0427, P1427, P2427, P3427, P4427, P5427⟩
 have N427 := Fr.app N426 M427
 have l427_0 := (ntr Z0 P0427)
 show oG p e b T427 m 23 #[sJ 4000000000, s2, sJ x0, s2, sI 9, sJ ((4000000000 : Int64) * x0), s2] [(.ref u0427)] _
 exact o_retA X427 j (dc21 11 rfl) rfl ⟨u0427, rfl, N427, ((Keep.refl h0 []).trans K427 all0), P0427, P1427, P2427, P3427, P4427, P5427⟩
def H83 (x0 : Int64) : Bool := decide (¬ (4000000000 : Int64) = (-9223372036854775808 : Int64)) && (decide (¬ x0 = (-9223372036854775808 : Int64)) && ((H82 x0) && true))
theorem ct83 (a1 a2 : Addr) (x0 : Int64) (O_0 : Old Z n0 h0) (k : own_K Z a0 g) (E_0 : Ee1 Z h0 a1) (F0intCompact : Ff2 Z h0 a1 (.long 4000000000)) (F0scale : Ff3 Z h0 a1 (.int 9)) (E_1 : Ee1 Z h0 a2) (F1intCompact : Ff2 Z h0 a2 (.long x0)) (F1scale : Ff3 Z h0 a2 (.int 0)) (hH : H83 x0 = true) :
 mM19 l ws (oR 5 1 5 74) #[(.ref a1), (.ref a2)] Z h0 fun v h L => ∃ (u0435 : Addr), v = some (.ref u0435) ∧ Fr n0 L ∧ Keep h0 h [] ∧ h0.size ≤ u0435 ∧ Ee1 Z h u0435 ∧ Ff2 Z h u0435 (.long ((4000000000 : Int64) * x0)) ∧ Ff6 Z h u0435 .null ∧ Ff7 Z h u0435 (.int 0) ∧ Ff3 Z h u0435 (.int 9) := by
 refine o_body own_pn19 k.1 (ef15 _ _) ?_
 intro p e s m b _ c T0 X0 j e0
 have N0 := Fr.nil n0
 have Z0 := own_Z0 O_0
 obtain ⟨hh0, q0⟩ := o_ad hH
 obtain ⟨hh1, q1⟩ := o_ad q0
 obtain ⟨hh2, q2⟩ := own_and q1
 refine o_aloadN X0 j (dc19 0 rfl) rfl rfl ?_
 refine o_aloadN X0 j (dc19 1 rfl) rfl rfl ?_
 refine o_getF X0 j (dc19 2 rfl) 52 rfl e0 F0scale fun T428 X428 e428 => ?_
 refine o_i2lL X428 j (dc19 3 rfl) 9 ?_
 refine o_aloadN X428 j (dc19 4 rfl) rfl rfl ?_
 refine o_getF X428 j (dc19 5 rfl) 52 rfl e428 F1scale fun T429 X429 e429 => ?_
 refine o_i2lL X429 j (dc19 6 rfl) 0 ?_
 refine o_laddL X429 j (dc19 7 rfl) 9 ?_
 refine o_callPv X429 j (ct18 a1 (9 : Int64) O_0 k E_0 (by decide)) rfl rfl (pL13 rfl) (dc19 8 rfl) 100 102 103 101 104 34 ⟨rfl, rfl, rfl, rfl, rfl, rfl⟩ E_0 0 e429 ?_
 rintro _ T430 L430 X430 ⟨hv430, M430, e430⟩
 rw [show ((9 : Int64).toInt32) = (9 : Int32) from by decide +kernel] at hv430
 subst hv430
 have N430 := Fr.app N0 M430
 show oG p e b T430 m 15 #[sR a1, sR a2, sU] [(.int 9)] _
 refine o_istoreN X430 j (dc19 9 rfl) (Ls' := #[sR a1, sR a2, sI 9]) rfl ?_
 refine o_aloadN X430 j (dc19 10 rfl) rfl rfl ?_
 refine o_getF X430 j (dc19 11 rfl) 49 rfl e430 F0intCompact fun T431 X431 e431 => ?_
 refine o_ldc2 X431 j (dc19 12 rfl) 51 rfl ?_
 refine o_lcmp X431 j (dc19 13 rfl) ?_
 refine o_ifNo X431 j (dc19 14 rfl) (feq (fun q => hh0 ((lw_eq (4000000000 : Int64) (-9223372036854775808 : Int64)).mp q))).1 ?_
 refine o_aloadN X431 j (dc19 15 rfl) rfl rfl ?_
 refine o_getF X431 j (dc19 16 rfl) 49 rfl e431 F1intCompact fun T432 X432 e432 => ?_
 refine o_ldc2 X432 j (dc19 17 rfl) 51 rfl ?_
 refine o_lcmp X432 j (dc19 18 rfl) ?_
 refine o_ifNo X432 j (dc19 19 rfl) (feq (fun q => hh1 ((lw_eq x0 (-9223372036854775808 : Int64)).mp q))).1 ?_
 refine o_aloadN X432 j (dc19 20 rfl) rfl rfl ?_
 refine o_getF X432 j (dc19 21 rfl) 49 rfl e432 F0intCompact fun T433 X433 e433 => ?_
 refine o_aloadN X433 j (dc19 22 rfl) rfl rfl ?_
 refine o_getF X433 j (dc19 23 rfl) 49 rfl e433 F1intCompact fun T434 X434 e434 => ?_
 refine o_iloadN X434 j (dc19 24 rfl) rfl ?_
 refine o_callS X434 j (ct82 x0 O_0 k hh2) rfl rfl (pL9 rfl) (dc19 25 rfl) 105 106 34 107 ⟨rfl, rfl, rfl, rfl⟩ 0 e434 ?_
 rintro _ T435 L435 X435 ⟨u0435, rfl, M435, K435, P0435, P1435, P2435, P3435, P4435, P5435⟩
 have N435 := Fr.app N430 M435
 have l435_0 := (ntr Z0 P0435)
 show oG p e b T435 m 50 #[sR a1, sR a2, sI 9] [(.ref u0435)] _
 exact o_retA X435 j (dc19 26 rfl) rfl ⟨u0435, rfl, N435, ((Keep.refl h0 []).trans K435 all0), P0435, P1435, P2435, P3435, P4435, P5435⟩
theorem ct84 (a1 : Addr) (x0 : Int64) (O_0 : Old Z n0 h0) (k : own_K Z a0 g) (E_0 : Ee1 Z h0 a1) (F0intCompact : Ff2 Z h0 a1 (.long x0)) (F0intVal : Ff6 Z h0 a1 .null) (F0scale : Ff3 Z h0 a1 (.int 9)) :
 mM24 l ws (oR 3 1 5 42) #[(.ref a1), (.int 9)] Z h0 fun v h L => ∃ (b438 : Addr), v = some (.ref b438) ∧ Fr n0 L ∧ Keep h0 h [] ∧ h0.size ≤ b438 ∧ Ee1 Z h b438 ∧ Ff2 Z h b438 (.long x0) ∧ Ff6 Z h b438 .null ∧ Ff7 Z h b438 (.int 0) ∧ Ff3 Z h b438 (.int 0) := by
 refine o_body own_pn24 k.1 (ef16 _ _) ?_
 intro p e s m b _ c T0 X0 j e0
 have N0 := Fr.nil n0
 have Z0 := own_Z0 O_0
 refine o_iloadN X0 j (dc24 0 rfl) rfl ?_
 refine o_ifYesD X0 j (dc24 1 rfl) 13 ?_
 refine o_aloadN X0 j (dc24 2 rfl) rfl rfl ?_
 refine o_aloadN X0 j (dc24 3 rfl) rfl rfl ?_
 refine o_getF X0 j (dc24 4 rfl) 52 rfl e0 F0scale fun T436 X436 e436 => ?_
 refine o_i2lL X436 j (dc24 5 rfl) 9 ?_
 refine o_iloadN X436 j (dc24 6 rfl) rfl ?_
 refine o_i2lL X436 j (dc24 7 rfl) 9 ?_
 refine o_lsubL X436 j (dc24 8 rfl) 0 ?_
 refine o_callPv X436 j (ct18 a1 (0 : Int64) O_0 k E_0 (by decide)) rfl rfl (pL13 rfl) (dc24 9 rfl) 100 102 103 101 104 34 ⟨rfl, rfl, rfl, rfl, rfl, rfl⟩ E_0 0 e436 ?_
 rintro _ T437 L437 X437 ⟨hv437, M437, e437⟩
 rw [show ((0 : Int64).toInt32) = (0 : Int32) from by decide +kernel] at hv437
 subst hv437
 have N437 := Fr.app N0 M437
 show oG p e b T437 m 25 #[sR a1, sI 9, sU, sU] [(.int 0)] _
 refine o_istoreN X437 j (dc24 10 rfl) (Ls' := #[sR a1, sI 9, sI 0, sU]) rfl ?_
 refine o_new X437 j (dc24 11 rfl) 76 77 34 ⟨rfl, rfl, rfl⟩ e437 fun T438 h438 b438 X438 e438 g438 E438 A438 D438 => ?_
 have F438_intCompact : Ff2 Z h438 b438 (.long 0) := D438 (Or.inr (ot k 50 rfl)) (ty := .long) (by decide)
 have F438_scale : Ff3 Z h438 b438 (.int 0) := D438 (Or.inr (ot k 53 rfl)) (ty := .int) (by decide)
 have F438_precision : Ff7 Z h438 b438 (.int 0) := D438 (Or.inl (ot k 92 rfl)) (ty := .int) (by decide)
 have F438_intVal : Ff6 Z h438 b438 .null := D438 (Or.inr (ot k 94 rfl)) (ty := (.object "java/math/BigInteger")) (by decide)
 have z438 := ntr (Nat.le_refl _) (nqs g438)
 have l438 := (ntr Z0 z438)
 refine o_dup X438 j (dc24 12 rfl) rfl ?_
 refine o_aloadN X438 j (dc24 13 rfl) rfl rfl ?_
 refine o_getF X438 j (dc24 14 rfl) 93 rfl e438 (F0intVal.ext E438) fun T439 X439 e439 => ?_
 refine o_aloadN X439 j (dc24 15 rfl) rfl rfl ?_
 refine o_getF X439 j (dc24 16 rfl) 49 rfl e439 (F0intCompact.ext E438) fun T440 X440 e440 => ?_
 refine o_iloadN X440 j (dc24 17 rfl) rfl ?_
 refine o_iconstL X440 j (dc24 18 rfl) 0 ?_
 refine o_callSp X440 j (ct77 b438 x0 (0 : Int32) ((O_0.ext E438)) k A438 (F438_intCompact) (F438_intVal) (F438_precision) (F438_scale) l438) rfl rfl (pL4 rfl) (dc24 19 rfl) 78 79 81 34 ⟨rfl, rfl, rfl, rfl⟩ 1 e440 ?_
 rintro _ T441 L441 X441 ⟨rfl, M441, K441, P0441, P1441, P2441, P3441⟩
 have N441 := Fr.app N437 M441
 show oG p e b T441 m 43 #[sR a1, sI 9, sI 0, sU] [(.ref b438)] _
 refine o_astoreN X441 j (dc24 20 rfl) rfl (Ls' := #[sR a1, sI 9, sI 0, sR b438]) rfl ?_
 refine o_aloadN X441 j (dc24 21 rfl) rfl rfl ?_
 refine o_getF X441 j (dc24 22 rfl) 52 rfl rfl P3441 fun T442 X442 e442 => ?_
 refine o_ifYesD X442 j (dc24 23 rfl) 61 ?_
 refine o_aloadN X442 j (dc24 24 rfl) rfl rfl ?_
 exact o_retA X442 j (dc24 25 rfl) e442 ⟨b438, rfl, N441, (((Keep.refl h0 []).ext E438).trans K441 (allS (Or.inr z438) all0)), z438, (A438.keep K441), P0441, P1441, P2441, P3441⟩
def D85_0 (x0 : Int64) : Int32 := (((x0.toUInt64 >>> ((32 : Int32) &&& 0x3f).toInt64.toUInt64).toInt64).toInt32)
def H85 (x0 : Int64) : Bool := decide (¬ x0 < (0 : Int64)) && (decide (¬ (D85_0 x0) = (0 : Int32)) && true)
theorem ct85 (a1 : Addr) (x0 : Int64) (O_0 : Old Z n0 h0) (k : own_K Z a0 g) (E_0 : Ee0 Z h0 a1) (F0bitLengthPlusOne : Ff8 Z h0 a1 (.int 0)) (F0mag : Ff1 Z h0 a1 .null) (F0signum : Ff0 Z h0 a1 (.int 0)) (G_0 : n0 ≤ a1) (hH : H85 x0 = true) :
 mM29 l ws (oR 2 1 2 24) #[(.ref a1), (.long x0)] Z h0 fun v h L => ∃ (b445 : Addr), v = none ∧ Fr n0 L ∧ Keep h0 h [a1] ∧ h0.size ≤ b445 ∧ own_Ar Z h b445 .int [(.int (D85_0 x0)), (.int (x0.toInt32))] ∧ Ff8 Z h a1 (.int 0) ∧ Ff1 Z h a1 (.ref b445) ∧ Ff0 Z h a1 (.int 1) := by
 refine o_body own_pn29 k.1 (ef18 _ _) ?_
 intro p e s m b _ c T0 X0 j e0
 have N0 := Fr.nil n0
 have Z0 := own_Z0 O_0
 obtain ⟨hh0, q0⟩ := o_ad hH
 obtain ⟨hh1, q1⟩ := o_ad q0
 refine o_aloadN X0 j (dc29 0 rfl) rfl rfl ?_
 refine o_callSp X0 j (ct25 a1 O_0 k E_0) rfl rfl (pL3 rfl) (dc29 1 rfl) 145 83 87 86 ⟨rfl, rfl, rfl, rfl⟩ 0 e0 ?_
 rintro _ T443 L443 X443 ⟨rfl, M443, e443⟩
 have N443 := Fr.app N0 M443
 show oG p e b T443 m 4 #[sR a1, sJ x0, s2, sU] [] _
 refine o_lloadN X443 j (dc29 2 rfl) rfl ?_
 refine o_lconstL X443 j (dc29 3 rfl) 0 ?_
 refine o_lcmp X443 j (dc29 4 rfl) ?_
 refine o_ifYes X443 j (dc29 5 rfl) 21 (flt (fun q => hh0 ((lw_lt x0 (0 : Int64)).mp q))).2.1 ?_
 refine o_aloadN X443 j (dc29 6 rfl) rfl rfl ?_
 refine o_iconstL X443 j (dc29 7 rfl) 1 ?_
 refine o_putf X443 j (dc29 8 rfl) 147 148 140 ⟨rfl, rfl, rfl⟩ .int e443 F0signum E_0 fun T444 h444 X444 e444 W444 => ?_
 have F444 := (F0signum).same W444
 have N444 := Fr.snoc X444 N443 G_0
 refine o_lloadN X444 j (dc29 9 rfl) rfl ?_
 refine o_bipushL X444 j (dc29 10 rfl) 32 ?_
 refine o_lushr X444 j (dc29 11 rfl) ?_
 refine o_l2i X444 j (dc29 12 rfl) ?_
 refine o_istoreN X444 j (dc29 13 rfl) (Ls' := #[sR a1, sJ x0, s2, sI (D85_0 x0)]) rfl ?_
 refine o_iloadN X444 j (dc29 14 rfl) rfl ?_
 refine o_ifYes X444 j (dc29 15 rfl) 54 (feq hh1).2 ?_
 refine o_aloadN X444 j (dc29 27 rfl) rfl rfl ?_
 refine o_iconstL X444 j (dc29 28 rfl) 2 ?_
 refine o_newA X444 j (dc29 29 rfl) 149 rfl e444 2 [(.int 0), (.int 0)] fun T445 h445 b445 X445 e445 g445 E445 A445 => ?_
 have z445 := ntr (nqs (Wr.size W444)) (nqs g445)
 have l445 := (ntr Z0 z445)
 have y447 := ((F0mag.other W444 (Or.inr (sn12 k))).ext E445)
 refine o_putf X445 j (dc29 30 rfl) 150 151 140 ⟨rfl, rfl, rfl⟩ (.array .int) e445 y447 ((E_0.wr W444).ext E445) fun T446 h446 X446 e446 W446 => ?_
 have F446 := y447.same W446
 have N446 := Fr.snoc X446 N444 G_0
 refine o_aloadN X446 j (dc29 31 rfl) rfl rfl ?_
 refine o_getF X446 j (dc29 32 rfl) 150 rfl e446 F446 fun T448 X448 e448 => ?_
 refine o_iconstL X448 j (dc29 33 rfl) 0 ?_
 refine o_iloadN X448 j (dc29 34 rfl) rfl ?_
 have d450 := (nne (nlt (nlt E_0.lt (nqs (Wr.size W444))) (nqs g445)))
 have d451 := (Ne.symm d450)
 refine o_iastore X448 j (dc29 35 rfl) e448 ((A445.other W446 d451)) (.int 0) fun T449 h449 X449 e449 W449 A449 => ?_
 have B449 : own_Ar Z h449 b445 .int [(.int (D85_0 x0)), (.int 0)] := A449
 have N449 := Fr.snoc X449 N446 l445
 refine o_aloadN X449 j (dc29 36 rfl) rfl rfl ?_
 refine o_getF X449 j (dc29 37 rfl) 150 rfl e449 (F446.other W449 (Or.inl d450)) fun T452 X452 e452 => ?_
 refine o_iconstL X452 j (dc29 38 rfl) 1 ?_
 refine o_lloadN X452 j (dc29 39 rfl) rfl ?_
 refine o_l2i X452 j (dc29 40 rfl) ?_
 refine o_iastore X452 j (dc29 41 rfl) e452 B449 (.int 0) fun T453 h453 X453 e453 W453 A453 => ?_
 have B453 : own_Ar Z h453 b445 .int [(.int (D85_0 x0)), (.int (x0.toInt32))] := A453
 have N453 := Fr.snoc X453 N449 l445
 have y454 := (((((F0bitLengthPlusOne.other W444 (Or.inr (sn13 k))).ext E445).other W446 (Or.inr (sn14 k))).other W449 (Or.inl d450)).other W453 (Or.inl d450))
 have y455 := ((F446.other W449 (Or.inl d450)).other W453 (Or.inl d450))
 have y456 := ((((F444.ext E445).other W446 (Or.inr (sn15 k))).other W449 (Or.inl d450)).other W453 (Or.inl d450))
 exact o_retV X453 j (dc29 42 rfl) e453 ⟨b445, rfl, N453, ((((((Keep.refl h0 [a1]).wr W444 (mI 0 rfl)).ext E445).wr W446 (mI 0 rfl)).wr W449 (Or.inr z445)).wr W453 (Or.inr z445)), z445, B453, y454, y455, y456⟩
def H86 (x0 : Int64) : Bool := decide (¬ x0 = (0 : Int64)) && (decide ((0 : Int64) < x0) && (decide ((16 : Int64) < x0) && (decide (¬ x0 < (0 : Int64)) && ((H85 x0) && true))))
theorem ct86 (x0 : Int64) (O_0 : Old Z n0 h0) (k : own_K Z a0 g) (hH : H86 x0 = true) :
 mM28 l ws (oR 3 2 8 40) #[(.long x0)] Z h0 fun v h L => ∃ (b457 : Addr) (u0458 : Addr), v = some (.ref b457) ∧ Fr n0 L ∧ Keep h0 h [] ∧ h0.size ≤ b457 ∧ h0.size ≤ u0458 ∧ u0458 ≠ b457 ∧ Ee0 Z h b457 ∧ Ff8 Z h b457 (.int 0) ∧ Ff1 Z h b457 (.ref u0458) ∧ Ff0 Z h b457 (.int 1) ∧ own_Ar Z h u0458 .int [(.int (D85_0 x0)), (.int (x0.toInt32))] := by
 refine o_body own_pn28 k.1 (ef3 _) ?_
 intro p e s m b _ c T0 X0 j e0
 have N0 := Fr.nil n0
 have Z0 := own_Z0 O_0
 obtain ⟨hh0, q0⟩ := o_ad hH
 obtain ⟨hh1, q1⟩ := o_ad q0
 obtain ⟨hh2, q2⟩ := o_ad q1
 obtain ⟨hh3, q3⟩ := o_ad q2
 obtain ⟨hh4, q4⟩ := own_and q3
 refine o_lloadN X0 j (dc28 0 rfl) rfl ?_
 refine o_lconstL X0 j (dc28 1 rfl) 0 ?_
 refine o_lcmp X0 j (dc28 2 rfl) ?_
 refine o_ifYes X0 j (dc28 3 rfl) 10 (feq (fun q => hh0 ((lw_eq x0 (0 : Int64)).mp q))).2 ?_
 refine o_lloadN X0 j (dc28 4 rfl) rfl ?_
 refine o_lconstL X0 j (dc28 5 rfl) 0 ?_
 refine o_lcmp X0 j (dc28 6 rfl) ?_
 refine o_ifNo X0 j (dc28 7 rfl) (tlt ((lw_gt x0 (0 : Int64)).mpr hh1)).2.2.2 ?_
 refine o_lloadN X0 j (dc28 8 rfl) rfl ?_
 refine o_ldc2 X0 j (dc28 9 rfl) 138 rfl ?_
 refine o_lcmp X0 j (dc28 10 rfl) ?_
 refine o_ifYes X0 j (dc28 11 rfl) 31 (tlt ((lw_gt x0 (16 : Int64)).mpr hh2)).2.2.1 ?_
 refine o_lloadN X0 j (dc28 12 rfl) rfl ?_
 refine o_lconstL X0 j (dc28 13 rfl) 0 ?_
 refine o_lcmp X0 j (dc28 14 rfl) ?_
 refine o_ifYes X0 j (dc28 15 rfl) 53 (flt (fun q => hh3 ((lw_lt x0 (0 : Int64)).mp q))).2.1 ?_
 refine o_new X0 j (dc28 16 rfl) 139 140 136 ⟨rfl, rfl, rfl⟩ e0 fun T457 h457 b457 X457 e457 g457 E457 A457 D457 => ?_
 have F457_signum : Ff0 Z h457 b457 (.int 0) := D457 (Or.inr (ot k 148 rfl)) (ty := .int) (by decide)
 have F457_mag : Ff1 Z h457 b457 .null := D457 (Or.inr (ot k 151 rfl)) (ty := (.array .int)) (by decide)
 have F457_bitLengthPlusOne : Ff8 Z h457 b457 (.int 0) := D457 (Or.inl (ot k 261 rfl)) (ty := .int) (by decide)
 have z457 := ntr (Nat.le_refl _) (nqs g457)
 have l457 := (ntr Z0 z457)
 refine o_dup X457 j (dc28 17 rfl) rfl ?_
 refine o_lloadN X457 j (dc28 18 rfl) rfl ?_
 refine o_callSp X457 j (ct85 b457 x0 ((O_0.ext E457)) k A457 (F457_bitLengthPlusOne) (F457_mag) (F457_signum) l457 hh4) rfl rfl (pL14 rfl) (dc28 19 rfl) 141 142 144 136 ⟨rfl, rfl, rfl, rfl⟩ 1 e457 ?_
 rintro _ T458 L458 X458 ⟨u0458, rfl, M458, K458, P0458, P1458, P2458, P3458, P4458⟩
 have N458 := Fr.app N0 M458
 have l458_0 := (ntr Z0 (ntr E457.1 P0458))
 show oG p e b T458 m 61 #[sJ x0, s2] [(.ref b457)] _
 have d459 := (nne (nlt A457.lt P0458))
 have d460 := (Ne.symm d459)
 exact o_retA X458 j (dc28 20 rfl) rfl ⟨b457, u0458, rfl, N458, (((Keep.refl h0 []).ext E457).trans K458 (allS (Or.inr z457) all0)), z457, (ntr E457.1 P0458), d460, (A457.keep K458), P2458, P3458, P4458, P1458⟩
def H87 (x0 : Int64) : Bool := (H86 x0) && true
theorem ct87 (a1 : Addr) (x0 : Int64) (O_0 : Old Z n0 h0) (k : own_K Z a0 g) (E_0 : Ee1 Z h0 a1) (F0intCompact : Ff2 Z h0 a1 (.long x0)) (F0intVal : Ff6 Z h0 a1 .null) (hH : H87 x0 = true) :
 mM27 l ws (oR 4 2 8 53) #[(.ref a1)] Z h0 fun v h L => ∃ (u0463 : Addr) (u1463 : Addr), v = some (.ref u0463) ∧ Fr n0 L ∧ Keep h0 h [] ∧ h0.size ≤ u0463 ∧ h0.size ≤ u1463 ∧ u1463 ≠ u0463 ∧ Ee0 Z h u0463 ∧ Ff8 Z h u0463 (.int 0) ∧ Ff1 Z h u0463 (.ref u1463) ∧ Ff0 Z h u0463 (.int 1) ∧ own_Ar Z h u1463 .int [(.int (D85_0 x0)), (.int (x0.toInt32))] := by
 refine o_body own_pn27 k.1 (ef8 _) ?_
 intro p e s m b _ c T0 X0 j e0
 have N0 := Fr.nil n0
 have Z0 := own_Z0 O_0
 obtain ⟨hh0, q0⟩ := own_and hH
 refine o_aloadN X0 j (dc27 0 rfl) rfl rfl ?_
 refine o_getF X0 j (dc27 1 rfl) 93 rfl e0 F0intVal fun T461 X461 e461 => ?_
 refine o_ifnonnullNo X461 j (dc27 2 rfl) ?_
 refine o_aloadN X461 j (dc27 3 rfl) rfl rfl ?_
 refine o_getF X461 j (dc27 4 rfl) 49 rfl e461 F0intCompact fun T462 X462 e462 => ?_
 refine o_callS X462 j (ct86 x0 O_0 k hh0) rfl rfl (pL15 rfl) (dc27 5 rfl) 134 135 136 137 ⟨rfl, rfl, rfl, rfl⟩ 0 e462 ?_
 rintro _ T463 L463 X463 ⟨u0463, u1463, rfl, M463, K463, P0463, P1463, P2463, P3463, P4463, P5463, P6463, P7463⟩
 have N463 := Fr.app N0 M463
 have l463_0 := (ntr Z0 P0463)
 have l463_1 := (ntr Z0 P1463)
 show oG p e b T463 m 14 #[sR a1] [(.ref u0463)] _
 exact o_retA X463 j (dc27 6 rfl) rfl ⟨u0463, u1463, rfl, N463, ((Keep.refl h0 []).trans K463 all0), P0463, P1463, P2463, P3463, P4463, P5463, P6463, P7463⟩
def H88 (x0 : Int64) : Bool := (H87 x0) && true
theorem ct88 (a1 : Addr) (x0 : Int64) (O_0 : Old Z n0 h0) (k : own_K Z a0 g) (E_0 : Ee1 Z h0 a1) (F0intCompact : Ff2 Z h0 a1 (.long x0)) (F0intVal : Ff6 Z h0 a1 .null) (F0scale : Ff3 Z h0 a1 (.int 0)) (hH : H88 x0 = true) :
 mM25 l ws (oR 5 2 8 65) #[(.ref a1)] Z h0 fun v h L => ∃ (u0465 : Addr) (u1465 : Addr), v = some (.ref u0465) ∧ Fr n0 L ∧ Keep h0 h [] ∧ h0.size ≤ u0465 ∧ h0.size ≤ u1465 ∧ u1465 ≠ u0465 ∧ Ee0 Z h u0465 ∧ Ff8 Z h u0465 (.int 0) ∧ Ff1 Z h u0465 (.ref u1465) ∧ Ff0 Z h u0465 (.int 1) ∧ own_Ar Z h u1465 .int [(.int (D85_0 x0)), (.int (x0.toInt32))] := by
 refine o_body own_pn25 k.1 (ef8 _) ?_
 intro p e s m b _ c T0 X0 j e0
 have N0 := Fr.nil n0
 have Z0 := own_Z0 O_0
 obtain ⟨hh0, q0⟩ := own_and hH
 refine o_aloadN X0 j (dc25 0 rfl) rfl rfl ?_
 refine o_iconstL X0 j (dc25 1 rfl) 0 ?_
 refine o_bipushL X0 j (dc25 2 rfl) 7 ?_
 refine o_callV X0 j (ct23 a1 O_0 k E_0 (F0scale)) rfl rfl (pL16 rfl) (dc25 3 rfl) 124 125 127 126 128 34 ⟨rfl, rfl, rfl, rfl, rfl, rfl⟩ E_0 0 e0 ?_
 rintro _ T464 L464 X464 ⟨rfl, M464, e464⟩
 have N464 := Fr.app N0 M464
 show oG p e b T464 m 7 #[sR a1] [(.ref a1)] _
 refine o_callPv X464 j (ct87 a1 x0 O_0 k E_0 (F0intCompact) (F0intVal) hh0) rfl rfl (pL17 rfl) (dc25 4 rfl) 129 131 132 130 133 34 ⟨rfl, rfl, rfl, rfl, rfl, rfl⟩ E_0 0 e464 ?_
 rintro _ T465 L465 X465 ⟨u0465, u1465, rfl, M465, K465, P0465, P1465, P2465, P3465, P4465, P5465, P6465, P7465⟩
 have N465 := Fr.app N464 M465
 have l465_0 := (ntr Z0 P0465)
 have l465_1 := (ntr Z0 P1465)
 show oG p e b T465 m 10 #[sR a1] [(.ref u0465)] _
 exact o_retA X465 j (dc25 5 rfl) rfl ⟨u0465, u1465, rfl, N465, ((Keep.refl h0 []).trans K465 all0), P0465, P1465, P2465, P3465, P4465, P5465, P6465, P7465⟩
theorem ct90 (x0 : Int32) (O_0 : Old Z n0 h0) (k : own_K Z a0 g) :
 mM50 l ws (oR 1 0 0 14) #[(.int x0)] Z h0 fun v h L => v = some (.int ((32 : Int32) - (own_nlz x0))) ∧ Fr n0 L ∧ h = h0 := by
 refine o_body own_pn50 k.1 (ef2 _) ?_
 intro p e s m b _ c T0 X0 j e0
 have N0 := Fr.nil n0
 have Z0 := own_Z0 O_0
 refine o_bipushL X0 j (dc50 0 rfl) 32 ?_
 refine o_iloadN X0 j (dc50 1 rfl) rfl ?_
 refine o_callS X0 j (rm_nlz (n0 := n0) k.1 x0) rfl rfl (pL18 rfl) (dc50 2 rfl) 265 208 209 210 ⟨rfl, rfl, rfl, rfl⟩ 1 e0 ?_
 rintro _ T466 L466 X466 ⟨rfl, M466, e466⟩
 have N466 := Fr.app N0 M466
 show oG p e b T466 m 6 #[sI x0] [(.int (own_nlz x0)), (.int 32)] _
 refine o_isub X466 j (dc50 3 rfl) ?_
 exact o_retI X466 j (dc50 4 rfl) rfl ⟨rfl, N466, e466⟩
def D91_0 (x0 : Int32) : Int32 := ((0 : Int32) + ((32 : Int32) - (own_nlz x0)))
theorem ct91 (a1 o1 : Addr) (x0 : Int32) (O_0 : Old Z n0 h0) (k : own_K Z a0 g) (E_0 : Ee0 Z h0 a1) (F0bitLengthPlusOne : Ff8 Z h0 a1 (.int 0)) (F0mag : Ff1 Z h0 a1 (.ref o1)) (F0signum : Ff0 Z h0 a1 (.int 1)) (G_0 : n0 ≤ a1) (A_1 : own_Ar Z h0 o1 .int [(.int x0)]) :
 mM49 l ws (oR 2 0 0 27) #[(.ref a1)] Z h0 fun v h L => v = some (.int (D91_0 x0)) ∧ Fr n0 L ∧ Keep h0 h [a1] ∧ Ff8 Z h a1 (.int ((D91_0 x0) + (1 : Int32))) ∧ Ff1 Z h a1 (.ref o1) ∧ Ff0 Z h a1 (.int 1) := by
 refine o_body own_pn49 k.1 (ef32 _) ?_
 intro p e s m b _ c T0 X0 j e0
 have N0 := Fr.nil n0
 have Z0 := own_Z0 O_0
 refine o_aloadN X0 j (dc49 0 rfl) rfl rfl ?_
 refine o_getF X0 j (dc49 1 rfl) 260 rfl e0 F0bitLengthPlusOne fun T467 X467 e467 => ?_
 refine o_iconstL X467 j (dc49 2 rfl) 1 ?_
 refine o_isubL X467 j (dc49 3 rfl) (-1) ?_
 refine o_istoreN X467 j (dc49 4 rfl) (Ls' := #[sR a1, sI (-1), sU, sU, sU, sU, sU]) rfl ?_
 refine o_iloadN X467 j (dc49 5 rfl) rfl ?_
 refine o_iconstL X467 j (dc49 6 rfl) (-1) ?_
 refine o_icmpNoD X467 j (dc49 7 rfl) ?_
 refine o_aloadN X467 j (dc49 8 rfl) rfl rfl ?_
 refine o_getF X467 j (dc49 9 rfl) 150 rfl e467 F0mag fun T468 X468 e468 => ?_
 refine o_astoreN X468 j (dc49 10 rfl) rfl (Ls' := #[sR a1, sI (-1), sR o1, sU, sU, sU, sU]) rfl ?_
 refine o_aloadN X468 j (dc49 11 rfl) rfl rfl ?_
 refine o_len X468 j (dc49 12 rfl) e468 A_1 1 ?_
 refine o_istoreN X468 j (dc49 13 rfl) (Ls' := #[sR a1, sI (-1), sR o1, sI 1, sU, sU, sU]) rfl ?_
 refine o_iloadN X468 j (dc49 14 rfl) rfl ?_
 refine o_ifYesD X468 j (dc49 15 rfl) 29 ?_
 refine o_iloadN X468 j (dc49 16 rfl) rfl ?_
 refine o_iconstL X468 j (dc49 17 rfl) 1 ?_
 refine o_isubL X468 j (dc49 18 rfl) 0 ?_
 refine o_iconstL X468 j (dc49 19 rfl) 5 ?_
 refine o_ishlL X468 j (dc49 20 rfl) 0 ?_
 refine o_aloadN X468 j (dc49 21 rfl) rfl rfl ?_
 refine o_getF X468 j (dc49 22 rfl) 150 rfl e468 F0mag fun T469 X469 e469 => ?_
 refine o_iconstL X469 j (dc49 23 rfl) 0 ?_
 refine o_iaload X469 j (dc49 24 rfl) e469 A_1 (.int x0) ?_
 refine o_callS X469 j (ct90 x0 O_0 k) rfl rfl (pL18 rfl) (dc49 25 rfl) 262 263 136 264 ⟨rfl, rfl, rfl, rfl⟩ 1 e469 ?_
 rintro _ T470 L470 X470 ⟨rfl, M470, e470⟩
 have N470 := Fr.app N0 M470
 show oG p e b T470 m 43 #[sR a1, sI (-1), sR o1, sI 1, sU, sU, sU] [(.int ((32 : Int32) - (own_nlz x0))), (.int 0)] _
 refine o_iadd X470 j (dc49 26 rfl) ?_
 refine o_istore X470 j (dc49 27 rfl) (Ls' := #[sR a1, sI (-1), sR o1, sI 1, sI (D91_0 x0), sU, sU]) rfl ?_
 refine o_aloadN X470 j (dc49 28 rfl) rfl rfl ?_
 refine o_getF X470 j (dc49 29 rfl) 147 rfl e470 F0signum fun T471 X471 e471 => ?_
 refine o_ifYesD X471 j (dc49 30 rfl) 128 ?_
 refine o_iload X471 j (dc49 31 rfl) rfl ?_
 refine o_istoreN X471 j (dc49 32 rfl) (Ls' := #[sR a1, sI (D91_0 x0), sR o1, sI 1, sI (D91_0 x0), sU, sU]) rfl ?_
 refine o_aloadN X471 j (dc49 33 rfl) rfl rfl ?_
 refine o_iloadN X471 j (dc49 34 rfl) rfl ?_
 refine o_iconstL X471 j (dc49 35 rfl) 1 ?_
 refine o_iadd X471 j (dc49 36 rfl) ?_
 refine o_put X471 j (dc49 37 rfl) 260 261 140 ⟨rfl, rfl, rfl⟩ .int e471 F0bitLengthPlusOne E_0 fun T472 h472 X472 e472 W472 => ?_
 have F472 := (F0bitLengthPlusOne).same W472
 have N472 := Fr.snoc X472 N470 G_0
 refine o_iloadN X472 j (dc49 38 rfl) rfl ?_
 have y473 := (F0mag.other W472 (Or.inr (sn22 k)))
 have y474 := (F0signum.other W472 (Or.inr (sn23 k)))
 exact o_retI X472 j (dc49 39 rfl) e472 ⟨rfl, N472, ((Keep.refl h0 [a1]).wr W472 (mI 0 rfl)), F472, y473, y474⟩
def H92 (x0 : Int64) : Bool := decide (¬ ((x0 ^^^ (x0 + (0 : Int64))) &&& ((0 : Int64) ^^^ (x0 + (0 : Int64)))) < (0 : Int64)) && true
theorem ct92 (x0 : Int64) (O_0 : Old Z n0 h0) (k : own_K Z a0 g) (hH : H92 x0 = true) :
 mM57 l ws (oR 0 0 0 0) #[(.long x0), (.long 0)] Z h0 fun v h L => v = some (.long (x0 + (0 : Int64))) ∧ Fr n0 L ∧ h = h0 := by
 refine o_body own_pn57 k.1 (ef7 _ _) ?_
 intro p e s m b _ c T0 X0 j e0
 have N0 := Fr.nil n0
 have Z0 := own_Z0 O_0
 obtain ⟨hh0, q0⟩ := o_ad hH
 refine o_lloadN X0 j (dc57 0 rfl) rfl ?_
 refine o_lloadN X0 j (dc57 1 rfl) rfl ?_
 refine o_ladd X0 j (dc57 2 rfl) ?_
 refine o_lstore X0 j (dc57 3 rfl) (Ls' := #[sJ x0, s2, sJ 0, s2, sJ (x0 + (0 : Int64)), s2]) rfl ?_
 refine o_lloadN X0 j (dc57 4 rfl) rfl ?_
 refine o_lload X0 j (dc57 5 rfl) rfl ?_
 refine o_lxor X0 j (dc57 6 rfl) ?_
 refine o_lloadN X0 j (dc57 7 rfl) rfl ?_
 refine o_lload X0 j (dc57 8 rfl) rfl ?_
 refine o_lxor X0 j (dc57 9 rfl) ?_
 refine o_land X0 j (dc57 10 rfl) ?_
 refine o_lconstL X0 j (dc57 11 rfl) 0 ?_
 refine o_lcmp X0 j (dc57 12 rfl) ?_
 refine o_ifYes X0 j (dc57 13 rfl) 29 (flt (fun q => hh0 ((lw_lt ((x0 ^^^ (x0 + (0 : Int64))) &&& ((0 : Int64) ^^^ (x0 + (0 : Int64)))) (0 : Int64)).mp q))).2.1 ?_
 refine o_lload X0 j (dc57 14 rfl) rfl ?_
 exact o_retJ X0 j (dc57 15 rfl) rfl ⟨rfl, N0, e0⟩
theorem ct93 (a1 : Addr) (x0 : Int64) (O_0 : Old Z n0 h0) (k : own_K Z a0 g) (E_0 : Ee2 Z h0 a1) (F0nanos : Ff5 Z h0 a1 (.int 0)) (F0seconds : Ff4 Z h0 a1 (.long 0)) (G_0 : n0 ≤ a1) :
 mM60 l ws (oR 1 0 0 12) #[(.ref a1), (.long x0), (.int 0)] Z h0 fun v h L => v = none ∧ Fr n0 L ∧ Keep h0 h [a1] ∧ Ff5 Z h a1 (.int 0) ∧ Ff4 Z h a1 (.long x0) := by
 refine o_body own_pn60 k.1 (ef34 _ _ _) ?_
 intro p e s m b _ c T0 X0 j e0
 have N0 := Fr.nil n0
 have Z0 := own_Z0 O_0
 refine o_aloadN X0 j (dc60 0 rfl) rfl rfl ?_
 refine o_initO X0 j (dc60 1 rfl) 309 89 90 ⟨rfl, rfl, rfl⟩ e0 0 fun T475 X475 e475 => ?_
 show oG p e b T475 m 4 #[sR a1, sJ x0, s2, sI 0] [] _
 refine o_aloadN X475 j (dc60 2 rfl) rfl rfl ?_
 refine o_lloadN X475 j (dc60 3 rfl) rfl ?_
 refine o_putf X475 j (dc60 4 rfl) 18 19 304 ⟨rfl, rfl, rfl⟩ .long e475 F0seconds E_0 fun T476 h476 X476 e476 W476 => ?_
 have F476 := (F0seconds).same W476
 have N476 := Fr.snoc X476 N0 G_0
 refine o_aloadN X476 j (dc60 5 rfl) rfl rfl ?_
 refine o_iloadN X476 j (dc60 6 rfl) rfl ?_
 have y478 := (F0nanos.other W476 (Or.inr (sn24 k)))
 refine o_putf X476 j (dc60 7 rfl) 25 26 304 ⟨rfl, rfl, rfl⟩ .int e476 y478 (E_0.wr W476) fun T477 h477 X477 e477 W477 => ?_
 have F477 := y478.same W477
 have N477 := Fr.snoc X477 N476 G_0
 have y479 := (F476.other W477 (Or.inr (sn25 k)))
 exact o_retV X477 j (dc60 8 rfl) e477 ⟨rfl, N477, (((Keep.refl h0 [a1]).wr W476 (mI 0 rfl)).wr W477 (mI 0 rfl)), F477, y479⟩
def H94 (x0 : Int64) : Bool := decide (¬ (x0 ||| (0 : Int64)) = (0 : Int64)) && true
theorem ct94 (x0 : Int64) (O_0 : Old Z n0 h0) (k : own_K Z a0 g) (hH : H94 x0 = true) :
 mM59 l ws (oR 2 1 2 28) #[(.long x0), (.int 0)] Z h0 fun v h L => ∃ (b480 : Addr), v = some (.ref b480) ∧ Fr n0 L ∧ Keep h0 h [] ∧ h0.size ≤ b480 ∧ Ee2 Z h b480 ∧ Ff5 Z h b480 (.int 0) ∧ Ff4 Z h b480 (.long x0) := by
 refine o_body own_pn59 k.1 (ef4 _ _) ?_
 intro p e s m b _ c T0 X0 j e0
 have N0 := Fr.nil n0
 have Z0 := own_Z0 O_0
 obtain ⟨hh0, q0⟩ := o_ad hH
 refine o_lloadN X0 j (dc59 0 rfl) rfl ?_
 refine o_iloadN X0 j (dc59 1 rfl) rfl ?_
 refine o_i2lL X0 j (dc59 2 rfl) 0 ?_
 refine o_lor X0 j (dc59 3 rfl) ?_
 refine o_lconstL X0 j (dc59 4 rfl) 0 ?_
 refine o_lcmp X0 j (dc59 5 rfl) ?_
 refine o_ifYes X0 j (dc59 6 rfl) 13 (feq (fun q => hh0 ((lw_eq (x0 ||| (0 : Int64)) (0 : Int64)).mp q))).2 ?_
 refine o_new X0 j (dc59 7 rfl) 303 304 11 ⟨rfl, rfl, rfl⟩ e0 fun T480 h480 b480 X480 e480 g480 E480 A480 D480 => ?_
 have F480_seconds : Ff4 Z h480 b480 (.long 0) := D480 (Or.inr (ot k 19 rfl)) (ty := .long) (by decide)
 have F480_nanos : Ff5 Z h480 b480 (.int 0) := D480 (Or.inr (ot k 26 rfl)) (ty := .int) (by decide)
 have z480 := ntr (Nat.le_refl _) (nqs g480)
 have l480 := (ntr Z0 z480)
 refine o_dup X480 j (dc59 8 rfl) rfl ?_
 refine o_lloadN X480 j (dc59 9 rfl) rfl ?_
 refine o_iloadN X480 j (dc59 10 rfl) rfl ?_
 refine o_callSp X480 j (ct93 b480 x0 ((O_0.ext E480)) k A480 (F480_nanos) (F480_seconds) l480) rfl rfl (pL32 rfl) (dc59 11 rfl) 305 306 308 11 ⟨rfl, rfl, rfl, rfl⟩ 1 e480 ?_
 rintro _ T481 L481 X481 ⟨rfl, M481, K481, P0481, P1481⟩
 have N481 := Fr.app N0 M481
 show oG p e b T481 m 22 #[sJ x0, s2, sI 0] [(.ref b480)] _
 exact o_retA X481 j (dc59 12 rfl) rfl ⟨b480, rfl, N481, (((Keep.refl h0 []).ext E480).trans K481 (allS (Or.inr z480) all0)), z480, (A480.keep K481), P0481, P1481⟩
def H95 (x0 : Int64) : Bool := (H92 x0) && ((H94 (x0 + (0 : Int64))) && true)
theorem ct95 (x0 : Int64) (O_0 : Old Z n0 h0) (k : own_K Z a0 g) (hH : H95 x0 = true) :
 mM55 l ws (oR 3 1 2 42) #[(.long x0), (.long 0)] Z h0 fun v h L => ∃ (u0485 : Addr), v = some (.ref u0485) ∧ Fr n0 L ∧ Keep h0 h [] ∧ h0.size ≤ u0485 ∧ Ee2 Z h u0485 ∧ Ff5 Z h u0485 (.int 0) ∧ Ff4 Z h u0485 (.long (x0 + (0 : Int64))) := by
 refine o_body own_pn55 k.1 (ef35 _ _) ?_
 intro p e s m b _ c T0 X0 j e0
 have N0 := Fr.nil n0
 have Z0 := own_Z0 O_0
 obtain ⟨hh0, q0⟩ := own_and hH
 obtain ⟨hh1, q1⟩ := own_and q0
 refine o_lloadN X0 j (dc55 0 rfl) rfl ?_
 refine o_lloadN X0 j (dc55 1 rfl) rfl ?_
 refine o_ldc2 X0 j (dc55 2 rfl) 290 rfl ?_
 refine o_callS X0 j (ct61 O_0 k (by decide)) rfl rfl (pL5 rfl) (dc55 3 rfl) 291 292 67 293 ⟨rfl, rfl, rfl, rfl⟩ 2 e0 ?_
 rintro _ T482 L482 X482 ⟨rfl, M482, e482⟩
 have N482 := Fr.app N0 M482
 show oG p e b T482 m 8 #[sJ x0, s2, sJ 0, s2, sU, sU, sU] [(.long 0), (.long x0)] _
 refine o_callS X482 j (ct92 x0 O_0 k hh0) rfl rfl (pL5 rfl) (dc55 4 rfl) 294 295 67 296 ⟨rfl, rfl, rfl, rfl⟩ 0 e482 ?_
 rintro _ T483 L483 X483 ⟨rfl, M483, e483⟩
 have N483 := Fr.app N482 M483
 show oG p e b T483 m 11 #[sJ x0, s2, sJ 0, s2, sU, sU, sU] [(.long (x0 + (0 : Int64)))] _
 refine o_lstore X483 j (dc55 5 rfl) (Ls' := #[sJ x0, s2, sJ 0, s2, sJ (x0 + (0 : Int64)), s2, sU]) rfl ?_
 refine o_lloadN X483 j (dc55 6 rfl) rfl ?_
 refine o_ldc2 X483 j (dc55 7 rfl) 290 rfl ?_
 refine o_callS X483 j (ct63 O_0 k (by decide)) rfl rfl (pL5 rfl) (dc55 8 rfl) 297 298 67 299 ⟨rfl, rfl, rfl, rfl⟩ 0 e483 ?_
 rintro _ T484 L484 X484 ⟨rfl, M484, e484⟩
 have N484 := Fr.app N483 M484
 show oG p e b T484 m 20 #[sJ x0, s2, sJ 0, s2, sJ (x0 + (0 : Int64)), s2, sU] [(.long 0)] _
 refine o_l2iL X484 j (dc55 9 rfl) 0 ?_
 refine o_istore X484 j (dc55 10 rfl) (Ls' := #[sJ x0, s2, sJ 0, s2, sJ (x0 + (0 : Int64)), s2, sI 0]) rfl ?_
 refine o_lload X484 j (dc55 11 rfl) rfl ?_
 refine o_iload X484 j (dc55 12 rfl) rfl ?_
 refine o_callS X484 j (ct94 (x0 + (0 : Int64)) O_0 k hh1) rfl rfl (pL33 rfl) (dc55 13 rfl) 300 301 11 302 ⟨rfl, rfl, rfl, rfl⟩ 0 e484 ?_
 rintro _ T485 L485 X485 ⟨u0485, rfl, M485, K485, P0485, P1485, P2485, P3485⟩
 have N485 := Fr.app N484 M485
 have l485_0 := (ntr Z0 P0485)
 show oG p e b T485 m 30 #[sJ x0, s2, sJ 0, s2, sJ (x0 + (0 : Int64)), s2, sI 0] [(.ref u0485)] _
 exact o_retA X485 j (dc55 14 rfl) rfl ⟨u0485, rfl, N485, ((Keep.refl h0 []).trans K485 all0), P0485, P1485, P2485, P3485⟩
def H96 (x0 : Int64) : Bool := (H88 x0) && ((H52 (D85_0 x0) (x0.toInt32)) && (decide (¬ (63 : Int32) < (D91_0 (D38_1 (D85_0 x0) (x0.toInt32)))) && ((H95 (D58_0 (D38_1 (D85_0 x0) (x0.toInt32)))) && true)))
def R96_0 (x0 : Int64) : Int64 := ((D58_0 (D38_1 (D85_0 x0) (x0.toInt32))) + (0 : Int64))
theorem ct96 (a1 : Addr) (x0 : Int64) (O_0 : Old Z n0 h0) (k : own_K Z a0 g) (E_0 : Ee1 Z h0 a1) (F0intCompact : Ff2 Z h0 a1 (.long x0)) (F0intVal : Ff6 Z h0 a1 .null) (F0scale : Ff3 Z h0 a1 (.int 9)) (hH : H96 x0 = true) :
 mM23 l ws (oR 7 14 40 115) #[(.ref a1)] Z h0 fun v h L => ∃ (u0494 : Addr), v = some (.ref u0494) ∧ Fr n0 L ∧ Keep h0 h [] ∧ h0.size ≤ u0494 ∧ Ee2 Z h u0494 ∧ Ff5 Z h u0494 (.int 0) ∧ Ff4 Z h u0494 (.long (R96_0 x0)) := by
 refine o_body own_pn23 k.1 (ef20 _) ?_
 intro p e s m b _ c T0 X0 j e0
 have N0 := Fr.nil n0
 have Z0 := own_Z0 O_0
 obtain ⟨hh0, q0⟩ := own_and hH
 obtain ⟨hh1, q1⟩ := own_and q0
 obtain ⟨hh2, q2⟩ := o_ad q1
 obtain ⟨hh3, q3⟩ := own_and q2
 refine o_aloadN X0 j (dc23 0 rfl) rfl rfl ?_
 refine o_bipushL X0 j (dc23 1 rfl) 9 ?_
 refine o_callV X0 j (ct84 a1 x0 O_0 k E_0 (F0intCompact) (F0intVal) (F0scale)) rfl rfl (pL1 rfl) (dc23 2 rfl) 114 115 117 116 118 34 ⟨rfl, rfl, rfl, rfl, rfl, rfl⟩ E_0 0 e0 ?_
 rintro _ T486 L486 X486 ⟨u0486, rfl, M486, K486, P0486, P1486, P2486, P3486, P4486, P5486⟩
 have N486 := Fr.app N0 M486
 have l486_0 := (ntr Z0 P0486)
 show oG p e b T486 m 6 #[sR a1, sU, sU] [(.ref u0486)] _
 refine o_callV X486 j (ct88 u0486 x0 ((O_0.keep K486 all0)) k P1486 P2486 P3486 P5486 hh0) rfl rfl (pL17 rfl) (dc23 3 rfl) 119 120 122 121 123 34 ⟨rfl, rfl, rfl, rfl, rfl, rfl⟩ P1486 0 rfl ?_
 rintro _ T487 L487 X487 ⟨u0487, u1487, rfl, M487, K487, P0487, P1487, P2487, P3487, P4487, P5487, P6487, P7487⟩
 have N487 := Fr.app N486 M487
 have l487_0 := (ntr Z0 (ntr K486.1 P0487))
 have l487_1 := (ntr Z0 (ntr K486.1 P1487))
 show oG p e b T487 m 9 #[sR a1, sU, sU] [(.ref u0487)] _
 refine o_astoreN X487 j (dc23 4 rfl) rfl (Ls' := #[sR a1, sR u0487, sU]) rfl ?_
 refine o_aloadN X487 j (dc23 5 rfl) rfl rfl ?_
 refine o_getS X487 j (dc23 6 rfl) 152 rfl rfl ((k4 k).ext (((O_0.keep K486 all0).keep K487 all0)).2) fun T488 X488 e488 => ?_
 refine o_callV X488 j (ct52 u0487 (g 54) u1487 (g 55) (D85_0 x0) (x0.toInt32) (((O_0.keep K486 all0).keep K487 all0)) k P3487 P5487 P6487 (((k30 k).ext (((O_0.keep K486 all0).keep K487 all0)).2)) (((k32 k).ext (((O_0.keep K486 all0).keep K487 all0)).2)) (((k31 k).ext (((O_0.keep K486 all0).keep K487 all0)).2)) P7487 (((k33 k).ext (((O_0.keep K486 all0).keep K487 all0)).2)) hh1) rfl rfl (pL30 rfl) (dc23 7 rfl) 153 154 156 155 157 136 ⟨rfl, rfl, rfl, rfl, rfl, rfl⟩ P3487 0 e488 ?_
 rintro _ T489 L489 X489 ⟨u0489, u1489, u2489, rfl, M489, K489, P0489, P1489, P2489, P3489, P4489, P5489, P6489, P7489, P8489, P9489, P10489, P11489⟩
 have N489 := Fr.app N487 M489
 have l489_0 := (ntr Z0 (ntr (ntr K486.1 K487.1) P0489))
 have l489_1 := (ntr Z0 (ntr (ntr K486.1 K487.1) P1489))
 have l489_2 := (ntr Z0 (ntr (ntr K486.1 K487.1) P2489))
 show oG p e b T489 m 17 #[sR a1, sR u0487, sU] [(.ref u0489)] _
 refine o_astoreN X489 j (dc23 8 rfl) rfl (Ls' := #[sR a1, sR u0487, sR u0489]) rfl ?_
 refine o_aloadN X489 j (dc23 9 rfl) rfl rfl ?_
 refine o_iconstL X489 j (dc23 10 rfl) 0 ?_
 refine o_aaload X489 j (dc23 11 rfl) rfl (P6489.ar) (.ref u1489) ?_
 have y490 := (((O_0.keep K486 all0).keep K487 all0).keep K489 all0)
 refine o_callV X489 j (ct91 u1489 u2489 (D38_1 (D85_0 x0) (x0.toInt32)) y490 k P7489 P8489 P9489 P10489 l489_1 P11489) rfl rfl (pL31 rfl) (dc23 12 rfl) 255 256 258 257 259 136 ⟨rfl, rfl, rfl, rfl, rfl, rfl⟩ P7489 0 rfl ?_
 rintro _ T491 L491 X491 ⟨rfl, M491, K491, P0491, P1491, P2491⟩
 have N491 := Fr.app N489 M491
 show oG p e b T491 m 24 #[sR a1, sR u0487, sR u0489] [(.int (D91_0 (D38_1 (D85_0 x0) (x0.toInt32))))] _
 refine o_bipushL X491 j (dc23 13 rfl) 63 ?_
 refine o_icmpYes X491 j (dc23 14 rfl) 57 (flt hh2).2.2.2 ?_
 refine o_aloadN X491 j (dc23 15 rfl) rfl rfl ?_
 refine o_iconstL X491 j (dc23 16 rfl) 0 ?_
 refine o_aaload X491 j (dc23 17 rfl) rfl (((P6489.keep K491 (ninS (Ne.symm P3489) nin0))).ar) (.ref u1489) ?_
 refine o_callV X491 j (ct58 u1489 u2489 (D38_1 (D85_0 x0) (x0.toInt32)) ((y490.keep K491 (allS l489_1 all0))) k ((P7489.keep K491)) P1491 P2491 ((P11489.keep K491 (ninS P5489 nin0)))) rfl rfl (pL34 rfl) (dc23 18 rfl) 266 267 269 268 270 136 ⟨rfl, rfl, rfl, rfl, rfl, rfl⟩ (P7489.keep K491) 0 rfl ?_
 rintro _ T492 L492 X492 ⟨rfl, M492, e492⟩
 have N492 := Fr.app N491 M492
 show oG p e b T492 m 63 #[sR a1, sR u0487, sR u0489] [(.long (D58_0 (D38_1 (D85_0 x0) (x0.toInt32))))] _
 refine o_aloadN X492 j (dc23 19 rfl) rfl rfl ?_
 refine o_iconstL X492 j (dc23 20 rfl) 1 ?_
 refine o_aaload X492 j (dc23 21 rfl) e492 (((P6489.keep K491 (ninS (Ne.symm P3489) nin0))).ar) (.ref (g 0)) ?_
 refine o_callV X492 j (ct60 (g 0) (g 1) ((y490.keep K491 (allS l489_1 all0))) k (((k7 k).ext ((y490.keep K491 (allS l489_1 all0))).2)) (((k9 k).ext ((y490.keep K491 (allS l489_1 all0))).2)) (((k8 k).ext ((y490.keep K491 (allS l489_1 all0))).2)) (((k10 k).ext ((y490.keep K491 (allS l489_1 all0))).2))) rfl rfl (pL31 rfl) (dc23 22 rfl) 282 283 285 284 286 136 ⟨rfl, rfl, rfl, rfl, rfl, rfl⟩ ((k7 k).ext ((y490.keep K491 (allS l489_1 all0))).2) 2 e492 ?_
 rintro _ T493 L493 X493 ⟨rfl, M493, e493⟩
 have N493 := Fr.app N492 M493
 show oG p e b T493 m 69 #[sR a1, sR u0487, sR u0489] [(.int 0), (.long (D58_0 (D38_1 (D85_0 x0) (x0.toInt32))))] _
 refine o_i2lL X493 j (dc23 23 rfl) 0 ?_
 refine o_callS X493 j (ct95 (D58_0 (D38_1 (D85_0 x0) (x0.toInt32))) ((y490.keep K491 (allS l489_1 all0))) k hh3) rfl rfl (pL35 rfl) (dc23 24 rfl) 287 288 11 289 ⟨rfl, rfl, rfl, rfl⟩ 0 e493 ?_
 rintro _ T494 L494 X494 ⟨u0494, rfl, M494, K494, P0494, P1494, P2494, P3494⟩
 have N494 := Fr.app N493 M494
 have l494_0 := (ntr Z0 (ntr (ntr (ntr (ntr K486.1 K487.1) K489.1) K491.1) P0494))
 show oG p e b T494 m 73 #[sR a1, sR u0487, sR u0489] [(.ref u0494)] _
 exact o_retA X494 j (dc23 25 rfl) rfl ⟨u0494, rfl, N494, ((((((Keep.refl h0 []).trans K486 all0).trans K487 all0).trans K489 all0).trans K491 (allS (Or.inr (ntr (ntr K486.1 K487.1) P1489)) all0)).trans K494 all0), (ntr (ntr (ntr (ntr K486.1 K487.1) K489.1) K491.1) P0494), P1494, P2494, P3494⟩
def H97 (x0 : Int64) : Bool := decide (¬ x0 = (0 : Int64)) && (decide (¬ x0 = (1 : Int64)) && ((H78 x0) && ((H83 x0) && ((H96 ((4000000000 : Int64) * x0)) && true))))
def R97_0 (x0 : Int64) : Int64 := (R96_0 ((4000000000 : Int64) * x0))
theorem ct97 (a1 : Addr) (x0 : Int64) (O_0 : Old Z n0 h0) (k : own_K Z a0 g) (E_0 : Ee2 Z h0 a1) (F0nanos : Ff5 Z h0 a1 (.int 0)) (F0seconds : Ff4 Z h0 a1 (.long 4)) (hH : H97 x0 = true) :
 mM2 l ws (oR 8 17 55 129) #[(.ref a1), (.long x0)] Z h0 fun v h L => ∃ (u0499 : Addr), v = some (.ref u0499) ∧ Fr n0 L ∧ Keep h0 h [] ∧ h0.size ≤ u0499 ∧ Ee2 Z h u0499 ∧ Ff5 Z h u0499 (.int 0) ∧ Ff4 Z h u0499 (.long (R97_0 x0)) := by
 refine o_body own_pn2 k.1 (ef1 _ _) ?_
 intro p e s m b _ c T0 X0 j e0
 have N0 := Fr.nil n0
 have Z0 := own_Z0 O_0
 obtain ⟨hh0, q0⟩ := o_ad hH
 obtain ⟨hh1, q1⟩ := o_ad q0
 obtain ⟨hh2, q2⟩ := own_and q1
 obtain ⟨hh3, q3⟩ := own_and q2
 obtain ⟨hh4, q4⟩ := own_and q3
 refine o_lloadN X0 j (dc2 0 rfl) rfl ?_
 refine o_lconstL X0 j (dc2 1 rfl) 0 ?_
 refine o_lcmp X0 j (dc2 2 rfl) ?_
 refine o_ifYes X0 j (dc2 3 rfl) 10 (feq (fun q => hh0 ((lw_eq x0 (0 : Int64)).mp q))).2 ?_
 refine o_lloadN X0 j (dc2 4 rfl) rfl ?_
 refine o_lconstL X0 j (dc2 5 rfl) 1 ?_
 refine o_lcmp X0 j (dc2 6 rfl) ?_
 refine o_ifYes X0 j (dc2 7 rfl) 18 (feq (fun q => hh1 ((lw_eq x0 (1 : Int64)).mp q))).2 ?_
 refine o_aloadN X0 j (dc2 10 rfl) rfl rfl ?_
 refine o_callPv X0 j (ct16 a1 O_0 k E_0 (F0nanos) (F0seconds)) rfl rfl (pL36 rfl) (dc2 11 rfl) 27 29 30 28 31 11 ⟨rfl, rfl, rfl, rfl, rfl, rfl⟩ E_0 0 e0 ?_
 rintro _ T495 L495 X495 ⟨u0495, rfl, M495, K495, P0495, P1495, P2495, P3495, P4495, P5495⟩
 have N495 := Fr.app N0 M495
 have l495_0 := (ntr Z0 P0495)
 show oG p e b T495 m 22 #[sR a1, sJ x0, s2] [(.ref u0495)] _
 refine o_lloadN X495 j (dc2 12 rfl) rfl ?_
 refine o_callS X495 j (ct78 x0 ((O_0.keep K495 all0)) k hh2) rfl rfl (pL11 rfl) (dc2 13 rfl) 32 33 34 35 ⟨rfl, rfl, rfl, rfl⟩ 1 rfl ?_
 rintro _ T496 L496 X496 ⟨u0496, rfl, M496, K496, P0496, P1496, P2496, P3496, P4496, P5496⟩
 have N496 := Fr.app N495 M496
 have l496_0 := (ntr Z0 (ntr K495.1 P0496))
 show oG p e b T496 m 26 #[sR a1, sJ x0, s2] [(.ref u0496), (.ref u0495)] _
 refine o_callV X496 j (ct83 u0495 u0496 x0 (((O_0.keep K495 all0).keep K496 all0)) k ((P1495.keep K496)) ((P2495.keep K496 nin0)) ((P5495.keep K496 nin0)) P1496 P2496 P5496 hh3) rfl rfl (pL12 rfl) (dc2 14 rfl) 95 96 98 97 99 34 ⟨rfl, rfl, rfl, rfl, rfl, rfl⟩ (P1495.keep K496) 0 rfl ?_
 rintro _ T497 L497 X497 ⟨u0497, rfl, M497, K497, P0497, P1497, P2497, P3497, P4497, P5497⟩
 have N497 := Fr.app N496 M497
 have l497_0 := (ntr Z0 (ntr (ntr K495.1 K496.1) P0497))
 show oG p e b T497 m 29 #[sR a1, sJ x0, s2] [(.ref u0497)] _
 have y498 := (((O_0.keep K495 all0).keep K496 all0).keep K497 all0)
 refine o_callS X497 j (ct96 u0497 ((4000000000 : Int64) * x0) y498 k P1497 P2497 P3497 P5497 hh4) rfl rfl (pL37 rfl) (dc2 15 rfl) 111 112 11 113 ⟨rfl, rfl, rfl, rfl⟩ 0 rfl ?_
 rintro _ T499 L499 X499 ⟨u0499, rfl, M499, K499, P0499, P1499, P2499, P3499⟩
 have N499 := Fr.app N497 M499
 have l499_0 := (ntr Z0 (ntr (ntr (ntr K495.1 K496.1) K497.1) P0499))
 show oG p e b T499 m 32 #[sR a1, sJ x0, s2] [(.ref u0499)] _
 exact o_retA X499 j (dc2 16 rfl) rfl ⟨u0499, rfl, N499, (((((Keep.refl h0 []).trans K495 all0).trans K496 all0).trans K497 all0).trans K499 all0), (ntr (ntr (ntr K495.1 K496.1) K497.1) P0499), P1499, P2499, P3499⟩
def H98 (x0 : Int32) : Bool := decide (¬ x0 < (1 : Int32)) && (decide (¬ (61 : Int32) < x0) && ((H97 ((1 : Int64) <<< ((x0 - (1 : Int32)) &&& 0x3f).toInt64)) && true))
def R98_0 (x0 : Int32) : Int64 := (R97_0 ((1 : Int64) <<< ((x0 - (1 : Int32)) &&& 0x3f).toInt64))
theorem ct98 (x0 : Int32) (O_0 : Old Z n0 h0) (k : own_K Z a0 g) (hH : H98 x0 = true) :
 mM1 l ws (oR 9 17 55 143) #[(.int x0)] Z h0 fun v h L => ∃ (u0501 : Addr), v = some (.ref u0501) ∧ Fr n0 L ∧ Keep h0 h [] ∧ h0.size ≤ u0501 ∧ Ee2 Z h u0501 ∧ Ff5 Z h u0501 (.int 0) ∧ Ff4 Z h u0501 (.long (R98_0 x0)) := by
 refine o_body own_pn1 k.1 (ef2 _) ?_
 intro p e s m b _ c T0 X0 j e0
 have N0 := Fr.nil n0
 have Z0 := own_Z0 O_0
 obtain ⟨hh0, q0⟩ := o_ad hH
 obtain ⟨hh1, q1⟩ := o_ad q0
 obtain ⟨hh2, q2⟩ := own_and q1
 refine o_iloadN X0 j (dc1 0 rfl) rfl ?_
 refine o_iconstL X0 j (dc1 1 rfl) 1 ?_
 refine o_icmpNo X0 j (dc1 2 rfl) (flt hh0).1 ?_
 refine o_iloadN X0 j (dc1 3 rfl) rfl ?_
 refine o_bipushL X0 j (dc1 4 rfl) 61 ?_
 refine o_icmpYes X0 j (dc1 5 rfl) 25 (flt hh1).2.2.2 ?_
 refine o_getS X0 j (dc1 6 rfl) 5 rfl e0 ((k6 k).ext O_0.2) fun T500 X500 e500 => ?_
 refine o_lconstL X500 j (dc1 7 rfl) 1 ?_
 refine o_iloadN X500 j (dc1 8 rfl) rfl ?_
 refine o_iconstL X500 j (dc1 9 rfl) 1 ?_
 refine o_isub X500 j (dc1 10 rfl) ?_
 refine o_lshl X500 j (dc1 11 rfl) ?_
 refine o_callV X500 j (ct97 (g 51) ((1 : Int64) <<< ((x0 - (1 : Int32)) &&& 0x3f).toInt64) O_0 k (((k25 k).ext O_0.2)) (((k27 k).ext O_0.2)) (((k26 k).ext O_0.2)) hh2) rfl rfl (pL0 rfl) (dc1 12 rfl) 7 8 10 9 12 11 ⟨rfl, rfl, rfl, rfl, rfl, rfl⟩ ((k25 k).ext O_0.2) 0 e500 ?_
 rintro _ T501 L501 X501 ⟨u0501, rfl, M501, K501, P0501, P1501, P2501, P3501⟩
 have N501 := Fr.app N0 M501
 have l501_0 := (ntr Z0 P0501)
 show oG p e b T501 m 36 #[sI x0] [(.ref u0501)] _
 exact o_retA X501 j (dc1 13 rfl) rfl ⟨u0501, rfl, N501, ((Keep.refl h0 []).trans K501 all0), P0501, P1501, P2501, P3501⟩
def H99 (x0 : Int32) (x1 : Int32) : Bool := decide (¬ x0 = (0 : Int32)) && true
theorem ct99 (a1 o1 : Addr) (x0 x1 : Int32) (O_0 : Old Z n0 h0) (k : own_K Z a0 g) (E_0 : Ee3 Z h0 a1) (F0intLen : Ff9 Z h0 a1 (.int 2)) (F0offset : Ff10 Z h0 a1 (.int 0)) (F0value : Ff11 Z h0 a1 (.ref o1)) (A_1 : own_Ar Z h0 o1 .int [(.int x0), (.int x1)]) (hH : H99 x0 x1 = true) :
 mM40 l ws (oR 0 0 0 0) #[(.ref a1)] Z h0 fun v h L => v = none ∧ Fr n0 L ∧ h = h0 := by
 refine o_body own_pn40 k.1 (ef21 _) ?_
 intro p e s m b _ c T0 X0 j e0
 have N0 := Fr.nil n0
 have Z0 := own_Z0 O_0
 obtain ⟨hh0, q0⟩ := o_ad hH
 refine o_aloadN X0 j (dc40 0 rfl) rfl rfl ?_
 refine o_getF X0 j (dc40 1 rfl) 176 rfl e0 F0intLen fun T502 X502 e502 => ?_
 refine o_ifYesD X502 j (dc40 2 rfl) 13 ?_
 refine o_aloadN X502 j (dc40 3 rfl) rfl rfl ?_
 refine o_getF X502 j (dc40 4 rfl) 172 rfl e502 F0offset fun T503 X503 e503 => ?_
 refine o_istoreN X503 j (dc40 5 rfl) (Ls' := #[sR a1, sI 0, sU, sU]) rfl ?_
 refine o_aloadN X503 j (dc40 6 rfl) rfl rfl ?_
 refine o_getF X503 j (dc40 7 rfl) 174 rfl e503 F0value fun T504 X504 e504 => ?_
 refine o_iloadN X504 j (dc40 8 rfl) rfl ?_
 refine o_iaload X504 j (dc40 9 rfl) e504 A_1 (.int x0) ?_
 refine o_ifNo X504 j (dc40 10 rfl) (feq hh0).1 ?_
 exact o_retV X504 j (dc40 11 rfl) rfl ⟨rfl, N0, e504⟩
def D100_0 (x0 : Int32) : Int32 := ((((x0.toInt64) &&& (4294967295 : Int64)) - ((((((x0.toInt64) &&& (4294967295 : Int64)) / (1000000000 : Int64)).toInt32).toInt64) * (1000000000 : Int64))).toInt32)
def D100_1 (x0 : Int32) : Int64 := (((D100_0 x0).toInt64) &&& (4294967295 : Int64))
def D100_2 (x0 : Int32) (x1 : Int32) : Int64 := (((D100_1 x0) <<< ((32 : Int32) &&& 0x3f).toInt64) ||| ((x1.toInt64) &&& (4294967295 : Int64)))
def D100_3 (x0 : Int32) (x1 : Int32) : Int32 := (((D100_2 x0 x1) / (1000000000 : Int64)).toInt32)
def D100_4 (x0 : Int32) (x1 : Int32) : Int32 := (((D100_2 x0 x1) - (((D100_3 x0 x1).toInt64) * (1000000000 : Int64))).toInt32)
def D100_5 (x0 : Int32) (x1 : Int32) : Int64 := (((D100_4 x0 x1).toInt64) &&& (4294967295 : Int64))
def H100 (x0 : Int32) (x1 : Int32) : Bool := decide (¬ ((x0.toInt64) &&& (4294967295 : Int64)) < (1000000000 : Int64)) && (decide (¬ (D100_2 x0 x1) < (0 : Int64)) && ((H99 ((((x0.toInt64) &&& (4294967295 : Int64)) / (1000000000 : Int64)).toInt32) (D100_3 x0 x1)) && (decide ((0 : Int32) < (own_nlz (1000000000 : Int32))) && true)))
def R100_0 (x0 : Int32) (x1 : Int32) : Int32 := ((D100_4 x0 x1) - ((D100_4 x0 x1) / (1000000000 : Int32)) * (1000000000 : Int32))
def R100_1 (x0 : Int32) : Int32 := ((((x0.toInt64) &&& (4294967295 : Int64)) / (1000000000 : Int64)).toInt32)
theorem ct100 (a1 a3 o2 o3 : Addr) (x0 x1 : Int32) (O_0 : Old Z n0 h0) (k : own_K Z a0 g) (E_0 : Ee3 Z h0 a1) (F0intLen : Ff9 Z h0 a1 (.int 2)) (F0offset : Ff10 Z h0 a1 (.int 0)) (F0value : Ff11 Z h0 a1 (.ref o2)) (E_1 : Ee3 Z h0 a3) (F1intLen : Ff9 Z h0 a3 (.int 0)) (F1offset : Ff10 Z h0 a3 (.int 0)) (F1value : Ff11 Z h0 a3 (.ref o3)) (G_1 : n0 ≤ a3) (A_2 : own_Ar Z h0 o2 .int [(.int x0), (.int x1)]) (A_3 : own_Ar Z h0 o3 .int [(.int 0)]) (ne_0_1 : a1 ≠ a3) (ne_1_2 : a3 ≠ o2) (hH : H100 x0 x1 = true) :
 mM38 l ws (oR 1 1 2 15) #[(.ref a1), (.int 1000000000), (.ref a3)] Z h0 fun v h L => ∃ (b509 : Addr), v = some (.int (R100_0 x0 x1)) ∧ Fr n0 L ∧ Keep h0 h [a3] ∧ h0.size ≤ b509 ∧ own_Ar Z h b509 .int [(.int (R100_1 x0)), (.int (D100_3 x0 x1))] ∧ Ff9 Z h a3 (.int 2) ∧ Ff10 Z h a3 (.int 0) ∧ Ff11 Z h a3 (.ref b509) := by
 refine o_body own_pn38 k.1 (ef22 _ _ _) ?_
 intro p e s m b _ c T0 X0 j e0
 have N0 := Fr.nil n0
 have Z0 := own_Z0 O_0
 obtain ⟨hh0, q0⟩ := o_ad hH
 obtain ⟨hh1, q1⟩ := o_ad q0
 obtain ⟨hh2, q2⟩ := own_and q1
 obtain ⟨hh3, q3⟩ := o_ad q2
 refine o_iloadN X0 j (dc38 0 rfl) rfl ?_
 refine o_i2lL X0 j (dc38 1 rfl) 1000000000 ?_
 refine o_ldc2 X0 j (dc38 2 rfl) 206 rfl ?_
 refine o_landL X0 j (dc38 3 rfl) 1000000000 ?_
 refine o_lstoreN X0 j (dc38 4 rfl) (Ls' := #[sR a1, sI 1000000000, sR a3, sJ 1000000000, s2, sU, sU, sU, sU, sU, sU, sU, sU, sU, sU]) rfl ?_
 refine o_aloadN X0 j (dc38 5 rfl) rfl rfl ?_
 refine o_getF X0 j (dc38 6 rfl) 176 rfl e0 F0intLen fun T505 X505 e505 => ?_
 refine o_iconstL X505 j (dc38 7 rfl) 1 ?_
 refine o_icmpYesD X505 j (dc38 8 rfl) 79 ?_
 refine o_aloadN X505 j (dc38 9 rfl) rfl rfl ?_
 refine o_getF X505 j (dc38 10 rfl) 174 rfl e505 F1value fun T506 X506 e506 => ?_
 refine o_len X506 j (dc38 11 rfl) e506 A_3 1 ?_
 refine o_aloadN X506 j (dc38 12 rfl) rfl rfl ?_
 refine o_getF X506 j (dc38 13 rfl) 176 rfl e506 F0intLen fun T507 X507 e507 => ?_
 refine o_icmpNoD X507 j (dc38 14 rfl) ?_
 refine o_aloadN X507 j (dc38 15 rfl) rfl rfl ?_
 refine o_aloadN X507 j (dc38 16 rfl) rfl rfl ?_
 refine o_getF X507 j (dc38 17 rfl) 176 rfl e507 F0intLen fun T508 X508 e508 => ?_
 refine o_newA X508 j (dc38 18 rfl) 149 rfl e508 2 [(.int 0), (.int 0)] fun T509 h509 b509 X509 e509 g509 E509 A509 => ?_
 have z509 := ntr (Nat.le_refl _) (nqs g509)
 have l509 := (ntr Z0 z509)
 refine o_put X509 j (dc38 19 rfl) 174 175 165 ⟨rfl, rfl, rfl⟩ (.array .int) e509 (F1value.ext E509) (E_1.ext E509) fun T510 h510 X510 e510 W510 => ?_
 have F510 := ((F1value.ext E509)).same W510
 have N510 := Fr.snoc X510 N0 G_1
 refine o_aloadN X510 j (dc38 20 rfl) rfl rfl ?_
 refine o_iconstL X510 j (dc38 21 rfl) 0 ?_
 have y512 := ((F1offset.ext E509).other W510 (Or.inr (sn19 k)))
 refine o_put X510 j (dc38 22 rfl) 172 173 165 ⟨rfl, rfl, rfl⟩ .int e510 y512 ((E_1.ext E509).wr W510) fun T511 h511 X511 e511 W511 => ?_
 have F511 := y512.same W511
 have N511 := Fr.snoc X511 N510 G_1
 refine o_aloadN X511 j (dc38 23 rfl) rfl rfl ?_
 refine o_aloadN X511 j (dc38 24 rfl) rfl rfl ?_
 have y513 := (((F0intLen.ext E509).other W510 (Or.inl ne_0_1)).other W511 (Or.inl ne_0_1))
 refine o_getF X511 j (dc38 25 rfl) 176 rfl e511 y513 fun T514 X514 e514 => ?_
 have y516 := (((F1intLen.ext E509).other W510 (Or.inr (sn18 k))).other W511 (Or.inr (sn17 k)))
 refine o_put X514 j (dc38 26 rfl) 176 177 165 ⟨rfl, rfl, rfl⟩ .int e514 y516 (((E_1.ext E509).wr W510).wr W511) fun T515 h515 X515 e515 W515 => ?_
 have F515 := y516.same W515
 have N515 := Fr.snoc X515 N511 G_1
 refine o_iloadN X515 j (dc38 27 rfl) rfl ?_
 have y517 := ((((O_0.ext E509).wr W510 G_1).wr W511 G_1).wr W515 G_1)
 refine o_callS X515 j (rm_nlz (n0 := n0) k.1 (1000000000 : Int32)) rfl rfl (pL18 rfl) (dc38 28 rfl) 207 208 209 210 ⟨rfl, rfl, rfl, rfl⟩ 0 e515 ?_
 rintro _ T518 L518 X518 ⟨rfl, M518, e518⟩
 have N518 := Fr.app N515 M518
 show oG p e b T518 m 118 #[sR a1, sI 1000000000, sR a3, sJ 1000000000, s2, sU, sU, sU, sU, sU, sU, sU, sU, sU, sU] [(.int (own_nlz (1000000000 : Int32)))] _
 refine o_istore X518 j (dc38 29 rfl) (Ls' := #[sR a1, sI 1000000000, sR a3, sJ 1000000000, s2, sI (own_nlz (1000000000 : Int32)), sU, sU, sU, sU, sU, sU, sU, sU, sU]) rfl ?_
 refine o_aloadN X518 j (dc38 30 rfl) rfl rfl ?_
 have y519 := ((((F0value.ext E509).other W510 (Or.inl ne_0_1)).other W511 (Or.inl ne_0_1)).other W515 (Or.inl ne_0_1))
 refine o_getF X518 j (dc38 31 rfl) 174 rfl e518 y519 fun T520 X520 e520 => ?_
 refine o_aloadN X520 j (dc38 32 rfl) rfl rfl ?_
 have y521 := ((((F0offset.ext E509).other W510 (Or.inl ne_0_1)).other W511 (Or.inl ne_0_1)).other W515 (Or.inl ne_0_1))
 refine o_getF X520 j (dc38 33 rfl) 172 rfl e520 y521 fun T522 X522 e522 => ?_
 have y523 := ((((A_2.ext E509).other W510 (Ne.symm ne_1_2)).other W511 (Ne.symm ne_1_2)).other W515 (Ne.symm ne_1_2))
 refine o_iaload X522 j (dc38 34 rfl) e522 y523 (.int x0) ?_
 refine o_istore X522 j (dc38 35 rfl) (Ls' := #[sR a1, sI 1000000000, sR a3, sJ 1000000000, s2, sI (own_nlz (1000000000 : Int32)), sI x0, sU, sU, sU, sU, sU, sU, sU, sU]) rfl ?_
 refine o_iload X522 j (dc38 36 rfl) rfl ?_
 refine o_i2l X522 j (dc38 37 rfl) ?_
 refine o_ldc2 X522 j (dc38 38 rfl) 206 rfl ?_
 refine o_land X522 j (dc38 39 rfl) ?_
 refine o_lstore X522 j (dc38 40 rfl) (Ls' := #[sR a1, sI 1000000000, sR a3, sJ 1000000000, s2, sI (own_nlz (1000000000 : Int32)), sI x0, sJ ((x0.toInt64) &&& (4294967295 : Int64)), s2, sU, sU, sU, sU, sU, sU]) rfl ?_
 refine o_lload X522 j (dc38 41 rfl) rfl ?_
 refine o_lloadN X522 j (dc38 42 rfl) rfl ?_
 refine o_lcmp X522 j (dc38 43 rfl) ?_
 refine o_ifYes X522 j (dc38 44 rfl) 157 (flt (fun q => hh0 ((lw_lt ((x0.toInt64) &&& (4294967295 : Int64)) (1000000000 : Int64)).mp q))).2.1 ?_
 refine o_aloadN X522 j (dc38 51 rfl) rfl rfl ?_
 have y524 := ((F510.other W511 (Or.inr (sn16 k))).other W515 (Or.inr (sn21 k)))
 refine o_getF X522 j (dc38 52 rfl) 174 rfl e522 y524 fun T525 X525 e525 => ?_
 refine o_iconstL X525 j (dc38 53 rfl) 0 ?_
 refine o_lload X525 j (dc38 54 rfl) rfl ?_
 refine o_lloadN X525 j (dc38 55 rfl) rfl ?_
 refine o_ldiv X525 j (dc38 56 rfl) (by decide) ?_
 refine o_l2i X525 j (dc38 57 rfl) ?_
 have d527 := (nne (nlt E_1.lt (nqs g509)))
 have d528 := (Ne.symm d527)
 have y529 := (((A509.other W510 d528).other W511 d528).other W515 d528)
 refine o_iastore X525 j (dc38 58 rfl) e525 y529 (.int 0) fun T526 h526 X526 e526 W526 A526 => ?_
 have B526 : own_Ar Z h526 b509 .int [(.int ((((x0.toInt64) &&& (4294967295 : Int64)) / (1000000000 : Int64)).toInt32)), (.int 0)] := A526
 have N526 := Fr.snoc X526 N518 l509
 refine o_lload X526 j (dc38 59 rfl) rfl ?_
 refine o_aloadN X526 j (dc38 60 rfl) rfl rfl ?_
 refine o_getF X526 j (dc38 61 rfl) 174 rfl e526 (y524.other W526 (Or.inl d527)) fun T530 X530 e530 => ?_
 refine o_iconstL X530 j (dc38 62 rfl) 0 ?_
 refine o_iaload X530 j (dc38 63 rfl) e530 B526 (.int ((((x0.toInt64) &&& (4294967295 : Int64)) / (1000000000 : Int64)).toInt32)) ?_
 refine o_i2l X530 j (dc38 64 rfl) ?_
 refine o_lloadN X530 j (dc38 65 rfl) rfl ?_
 refine o_lmul X530 j (dc38 66 rfl) ?_
 refine o_lsub X530 j (dc38 67 rfl) ?_
 refine o_l2i X530 j (dc38 68 rfl) ?_
 refine o_istore X530 j (dc38 69 rfl) (Ls' := #[sR a1, sI 1000000000, sR a3, sJ 1000000000, s2, sI (own_nlz (1000000000 : Int32)), sI (D100_0 x0), sJ ((x0.toInt64) &&& (4294967295 : Int64)), s2, sU, sU, sU, sU, sU, sU]) rfl ?_
 refine o_iload X530 j (dc38 70 rfl) rfl ?_
 refine o_i2l X530 j (dc38 71 rfl) ?_
 refine o_ldc2 X530 j (dc38 72 rfl) 206 rfl ?_
 refine o_land X530 j (dc38 73 rfl) ?_
 refine o_lstore X530 j (dc38 74 rfl) (Ls' := #[sR a1, sI 1000000000, sR a3, sJ 1000000000, s2, sI (own_nlz (1000000000 : Int32)), sI (D100_0 x0), sJ (D100_1 x0), s2, sU, sU, sU, sU, sU, sU]) rfl ?_
 refine o_aloadN X530 j (dc38 75 rfl) rfl rfl ?_
 have d531 := (nne (nlt E_0.lt (nqs g509)))
 have y532 := ((y513.other W515 (Or.inl ne_0_1)).other W526 (Or.inl d531))
 refine o_getF X530 j (dc38 76 rfl) 176 rfl e530 y532 fun T533 X533 e533 => ?_
 refine o_istore X533 j (dc38 77 rfl) (Ls' := #[sR a1, sI 1000000000, sR a3, sJ 1000000000, s2, sI (own_nlz (1000000000 : Int32)), sI (D100_0 x0), sJ (D100_1 x0), s2, sI 2, sU, sU, sU, sU, sU]) rfl ?_
 refine o_iinc X533 j (dc38 78 rfl) rfl (z := 1) (by decide) (Ls' := #[sR a1, sI 1000000000, sR a3, sJ 1000000000, s2, sI (own_nlz (1000000000 : Int32)), sI (D100_0 x0), sJ (D100_1 x0), s2, sI 1, sU, sU, sU, sU, sU]) rfl ?_
 refine o_iload X533 j (dc38 79 rfl) rfl ?_
 refine o_ifNoD X533 j (dc38 80 rfl) ?_
 refine o_lload X533 j (dc38 81 rfl) rfl ?_
 refine o_bipushL X533 j (dc38 82 rfl) 32 ?_
 refine o_lshl X533 j (dc38 83 rfl) ?_
 refine o_aloadN X533 j (dc38 84 rfl) rfl rfl ?_
 refine o_getF X533 j (dc38 85 rfl) 174 rfl e533 (y519.other W526 (Or.inl d531)) fun T534 X534 e534 => ?_
 refine o_aloadN X534 j (dc38 86 rfl) rfl rfl ?_
 refine o_getF X534 j (dc38 87 rfl) 172 rfl e534 (y521.other W526 (Or.inl d531)) fun T535 X535 e535 => ?_
 refine o_aloadN X535 j (dc38 88 rfl) rfl rfl ?_
 refine o_getF X535 j (dc38 89 rfl) 176 rfl e535 y532 fun T536 X536 e536 => ?_
 refine o_iaddL X536 j (dc38 90 rfl) 2 ?_
 refine o_iload X536 j (dc38 91 rfl) rfl ?_
 refine o_isubL X536 j (dc38 92 rfl) 1 ?_
 have d537 := (nne (nlt A_2.lt (nqs g509)))
 refine o_iaload X536 j (dc38 93 rfl) e536 ((y523.other W526 d537)) (.int x1) ?_
 refine o_i2l X536 j (dc38 94 rfl) ?_
 refine o_ldc2 X536 j (dc38 95 rfl) 206 rfl ?_
 refine o_land X536 j (dc38 96 rfl) ?_
 refine o_lor X536 j (dc38 97 rfl) ?_
 refine o_lstore X536 j (dc38 98 rfl) (Ls' := #[sR a1, sI 1000000000, sR a3, sJ 1000000000, s2, sI (own_nlz (1000000000 : Int32)), sI (D100_0 x0), sJ (D100_1 x0), s2, sI 1, sJ (D100_2 x0 x1), s2, sU, sU, sU]) rfl ?_
 refine o_lload X536 j (dc38 99 rfl) rfl ?_
 refine o_lconstL X536 j (dc38 100 rfl) 0 ?_
 refine o_lcmp X536 j (dc38 101 rfl) ?_
 refine o_ifNo X536 j (dc38 102 rfl) (flt (fun q => hh1 ((lw_lt (D100_2 x0 x1) (0 : Int64)).mp q))).1 ?_
 refine o_lload X536 j (dc38 103 rfl) rfl ?_
 refine o_lloadN X536 j (dc38 104 rfl) rfl ?_
 refine o_ldiv X536 j (dc38 105 rfl) (by decide) ?_
 refine o_l2i X536 j (dc38 106 rfl) ?_
 refine o_istore X536 j (dc38 107 rfl) (Ls' := #[sR a1, sI 1000000000, sR a3, sJ 1000000000, s2, sI (own_nlz (1000000000 : Int32)), sI (D100_0 x0), sJ (D100_1 x0), s2, sI 1, sJ (D100_2 x0 x1), s2, sI (D100_3 x0 x1), sU, sU]) rfl ?_
 refine o_lload X536 j (dc38 108 rfl) rfl ?_
 refine o_iload X536 j (dc38 109 rfl) rfl ?_
 refine o_i2l X536 j (dc38 110 rfl) ?_
 refine o_lloadN X536 j (dc38 111 rfl) rfl ?_
 refine o_lmul X536 j (dc38 112 rfl) ?_
 refine o_lsub X536 j (dc38 113 rfl) ?_
 refine o_l2i X536 j (dc38 114 rfl) ?_
 refine o_istore X536 j (dc38 115 rfl) (Ls' := #[sR a1, sI 1000000000, sR a3, sJ 1000000000, s2, sI (own_nlz (1000000000 : Int32)), sI (D100_4 x0 x1), sJ (D100_1 x0), s2, sI 1, sJ (D100_2 x0 x1), s2, sI (D100_3 x0 x1), sU, sU]) rfl ?_
 refine o_goto X536 j (dc38 116 rfl) 289 ?_
 refine o_aloadN X536 j (dc38 117 rfl) rfl rfl ?_
 refine o_getF X536 j (dc38 118 rfl) 174 rfl e536 (y524.other W526 (Or.inl d527)) fun T538 X538 e538 => ?_
 refine o_aloadN X538 j (dc38 119 rfl) rfl rfl ?_
 refine o_getF X538 j (dc38 120 rfl) 176 rfl e538 y532 fun T539 X539 e539 => ?_
 refine o_iload X539 j (dc38 121 rfl) rfl ?_
 refine o_isubL X539 j (dc38 122 rfl) 1 ?_
 refine o_iload X539 j (dc38 123 rfl) rfl ?_
 refine o_iastore X539 j (dc38 124 rfl) e539 B526 (.int 0) fun T540 h540 X540 e540 W540 A540 => ?_
 have B540 : own_Ar Z h540 b509 .int [(.int ((((x0.toInt64) &&& (4294967295 : Int64)) / (1000000000 : Int64)).toInt32)), (.int (D100_3 x0 x1))] := A540
 have N540 := Fr.snoc X540 N526 l509
 refine o_iload X540 j (dc38 125 rfl) rfl ?_
 refine o_i2l X540 j (dc38 126 rfl) ?_
 refine o_ldc2 X540 j (dc38 127 rfl) 206 rfl ?_
 refine o_land X540 j (dc38 128 rfl) ?_
 refine o_lstore X540 j (dc38 129 rfl) (Ls' := #[sR a1, sI 1000000000, sR a3, sJ 1000000000, s2, sI (own_nlz (1000000000 : Int32)), sI (D100_4 x0 x1), sJ (D100_5 x0 x1), s2, sI 1, sJ (D100_2 x0 x1), s2, sI (D100_3 x0 x1), sU, sU]) rfl ?_
 refine o_goto X540 j (dc38 130 rfl) 198 ?_
 refine o_iinc X540 j (dc38 78 rfl) rfl (z := 0) (by decide) (Ls' := #[sR a1, sI 1000000000, sR a3, sJ 1000000000, s2, sI (own_nlz (1000000000 : Int32)), sI (D100_4 x0 x1), sJ (D100_5 x0 x1), s2, sI 0, sJ (D100_2 x0 x1), s2, sI (D100_3 x0 x1), sU, sU]) rfl ?_
 refine o_iload X540 j (dc38 79 rfl) rfl ?_
 refine o_ifYesD X540 j (dc38 80 rfl) 315 ?_
 refine o_aloadN X540 j (dc38 131 rfl) rfl rfl ?_
 have y541 := ((((((E_1.ext E509).wr W510).wr W511).wr W515).wr W526).wr W540)
 have y542 := ((F515.other W526 (Or.inl d527)).other W540 (Or.inl d527))
 have y543 := (((F511.other W515 (Or.inr (sn20 k))).other W526 (Or.inl d527)).other W540 (Or.inl d527))
 have y544 := ((y524.other W526 (Or.inl d527)).other W540 (Or.inl d527))
 refine o_callV X540 j (ct99 a3 b509 ((((x0.toInt64) &&& (4294967295 : Int64)) / (1000000000 : Int64)).toInt32) (D100_3 x0 x1) (((y517.wr W526 l509).wr W540 l509)) k y541 y542 y543 y544 B540 hh2) rfl rfl (pL3 rfl) (dc38 132 rfl) 212 213 215 214 216 166 ⟨rfl, rfl, rfl, rfl, rfl, rfl⟩ y541 0 e540 ?_
 rintro _ T545 L545 X545 ⟨rfl, M545, e545⟩
 have N545 := Fr.app N540 M545
 show oG p e b T545 m 319 #[sR a1, sI 1000000000, sR a3, sJ 1000000000, s2, sI (own_nlz (1000000000 : Int32)), sI (D100_4 x0 x1), sJ (D100_5 x0 x1), s2, sI 0, sJ (D100_2 x0 x1), s2, sI (D100_3 x0 x1), sU, sU] [] _
 refine o_iload X545 j (dc38 133 rfl) rfl ?_
 refine o_ifNo X545 j (dc38 134 rfl) (tlt hh3).2.2.2 ?_
 refine o_iload X545 j (dc38 135 rfl) rfl ?_
 refine o_iloadN X545 j (dc38 136 rfl) rfl ?_
 refine o_irem X545 j (dc38 137 rfl) (by decide) ?_
 exact o_retI X545 j (dc38 138 rfl) e545 ⟨b509, rfl, N545, (((((((Keep.refl h0 [a3]).ext E509).wr W510 (mI 0 rfl)).wr W511 (mI 0 rfl)).wr W515 (mI 0 rfl)).wr W526 (Or.inr z509)).wr W540 (Or.inr z509)), z509, B540, y542, y543, y544⟩
def H101 (x0 : Int32) (x1 : Int32) : Bool := (H100 x0 x1) && (decide ((R100_0 x0 x1) = (0 : Int32)) && true)
theorem ct101 (a1 a2 a3 o3 o4 o5 : Addr) (x0 x1 : Int32) (O_0 : Old Z n0 h0) (k : own_K Z a0 g) (E_0 : Ee3 Z h0 a1) (F0intLen : Ff9 Z h0 a1 (.int 2)) (F0offset : Ff10 Z h0 a1 (.int 0)) (F0value : Ff11 Z h0 a1 (.ref o3)) (E_1 : Ee3 Z h0 a2) (F1intLen : Ff9 Z h0 a2 (.int 1)) (F1offset : Ff10 Z h0 a2 (.int 0)) (F1value : Ff11 Z h0 a2 (.ref o4)) (E_2 : Ee3 Z h0 a3) (F2intLen : Ff9 Z h0 a3 (.int 0)) (F2offset : Ff10 Z h0 a3 (.int 0)) (F2value : Ff11 Z h0 a3 (.ref o5)) (G_2 : n0 ≤ a3) (A_3 : own_Ar Z h0 o3 .int [(.int x0), (.int x1)]) (A_4 : own_Ar Z h0 o4 .int [(.int 1000000000)]) (A_5 : own_Ar Z h0 o5 .int [(.int 0)]) (G_5 : n0 ≤ o5) (ne_0_2 : a1 ≠ a3) (ne_0_5 : a1 ≠ o5) (ne_1_2 : a2 ≠ a3) (ne_1_5 : a2 ≠ o5) (ne_2_3 : a3 ≠ o3) (ne_2_4 : a3 ≠ o4) (ne_2_5 : a3 ≠ o5) (ne_3_5 : o3 ≠ o5) (ne_4_5 : o4 ≠ o5) (hH : H101 x0 x1 = true) :
 mM35 l ws (oR 2 3 6 41) #[(.ref a1), (.ref a2), (.ref a3), (.int 1)] Z h0 fun v h L => ∃ (b562 : Addr) (u0564 : Addr) (u0561 : Addr), v = some (.ref b562) ∧ Fr n0 L ∧ Keep h0 h [a3, o5] ∧ h0.size ≤ b562 ∧ h0.size ≤ u0564 ∧ h0.size ≤ u0561 ∧ u0564 ≠ b562 ∧ u0561 ≠ b562 ∧ u0561 ≠ u0564 ∧ Ee3 Z h b562 ∧ Ff9 Z h b562 (.int 0) ∧ Ff10 Z h b562 (.int 0) ∧ Ff11 Z h b562 (.ref u0564) ∧ own_Ar Z h u0564 .int [(.int 0)] ∧ own_Ar Z h u0561 .int [(.int (R100_1 x0)), (.int (D100_3 x0 x1))] ∧ Ff9 Z h a3 (.int 2) ∧ Ff10 Z h a3 (.int 0) ∧ Ff11 Z h a3 (.ref u0561) ∧ own_Ar Z h o5 .int [(.int 0)] := by
 refine o_body own_pn35 k.1 (ef23 _ _ _ _) ?_
 intro p e s m b _ c T0 X0 j e0
 have N0 := Fr.nil n0
 have Z0 := own_Z0 O_0
 obtain ⟨hh0, q0⟩ := own_and hH
 obtain ⟨hh1, q1⟩ := o_ad q0
 refine o_aloadN X0 j (dc35 0 rfl) rfl rfl ?_
 refine o_getF X0 j (dc35 1 rfl) 176 rfl e0 F1intLen fun T546 X546 e546 => ?_
 refine o_ifYesD X546 j (dc35 2 rfl) 17 ?_
 refine o_aloadN X546 j (dc35 3 rfl) rfl rfl ?_
 refine o_getF X546 j (dc35 4 rfl) 176 rfl e546 F0intLen fun T547 X547 e547 => ?_
 refine o_ifYesD X547 j (dc35 5 rfl) 50 ?_
 refine o_aloadN X547 j (dc35 6 rfl) rfl rfl ?_
 refine o_aloadN X547 j (dc35 7 rfl) rfl rfl ?_
 refine o_callV X547 j (ct34 a1 a2 (2 : Int32) O_0 k E_0 (F0intLen) E_1 (F1intLen) (by decide)) rfl rfl (pL19 rfl) (dc35 8 rfl) 191 192 194 193 195 166 ⟨rfl, rfl, rfl, rfl, rfl, rfl⟩ E_0 0 e547 ?_
 rintro _ T548 L548 X548 ⟨rfl, M548, e548⟩
 have N548 := Fr.app N0 M548
 show oG p e b T548 m 55 #[sR a1, sR a2, sR a3, sI 1, sU, sU, sU, sU] [(.int 1)] _
 refine o_istore X548 j (dc35 9 rfl) (Ls' := #[sR a1, sR a2, sR a3, sI 1, sI 1, sU, sU, sU]) rfl ?_
 refine o_iload X548 j (dc35 10 rfl) rfl ?_
 refine o_ifYesD X548 j (dc35 11 rfl) 89 ?_
 refine o_iload X548 j (dc35 12 rfl) rfl ?_
 refine o_ifYesD X548 j (dc35 13 rfl) 127 ?_
 refine o_aloadN X548 j (dc35 14 rfl) rfl rfl ?_
 refine o_callV X548 j (ct35 a3 o5 O_0 k E_2 (F2intLen) (F2offset) (F2value) G_2 A_5 G_5 ne_2_5) rfl rfl (pL3 rfl) (dc35 15 rfl) 196 197 199 198 200 166 ⟨rfl, rfl, rfl, rfl, rfl, rfl⟩ E_2 0 e548 ?_
 rintro _ T549 L549 X549 ⟨rfl, M549, K549, P0549, P1549, P2549, P3549⟩
 have N549 := Fr.app N548 M549
 show oG p e b T549 m 131 #[sR a1, sR a2, sR a3, sI 1, sI 1, sU, sU, sU] [] _
 refine o_aloadN X549 j (dc35 16 rfl) rfl rfl ?_
 have y550 := (F1intLen.keep K549 (ninS ne_1_2 (ninS ne_1_5 nin0)))
 refine o_getF X549 j (dc35 17 rfl) 176 rfl rfl y550 fun T551 X551 e551 => ?_
 refine o_iconstL X551 j (dc35 18 rfl) 1 ?_
 refine o_icmpNoD X551 j (dc35 19 rfl) ?_
 refine o_aloadN X551 j (dc35 20 rfl) rfl rfl ?_
 refine o_aloadN X551 j (dc35 21 rfl) rfl rfl ?_
 have y552 := (F1value.keep K549 (ninS ne_1_2 (ninS ne_1_5 nin0)))
 refine o_getF X551 j (dc35 22 rfl) 174 rfl e551 y552 fun T553 X553 e553 => ?_
 refine o_aloadN X553 j (dc35 23 rfl) rfl rfl ?_
 have y554 := (F1offset.keep K549 (ninS ne_1_2 (ninS ne_1_5 nin0)))
 refine o_getF X553 j (dc35 24 rfl) 172 rfl e553 y554 fun T555 X555 e555 => ?_
 have y556 := (A_4.keep K549 (ninS (Ne.symm ne_2_4) (ninS ne_4_5 nin0)))
 refine o_iaload X555 j (dc35 25 rfl) e555 y556 (.int 1000000000) ?_
 refine o_aloadN X555 j (dc35 26 rfl) rfl rfl ?_
 have y557 := (F0intLen.keep K549 (ninS ne_0_2 (ninS ne_0_5 nin0)))
 have y558 := (F0offset.keep K549 (ninS ne_0_2 (ninS ne_0_5 nin0)))
 have y559 := (F0value.keep K549 (ninS ne_0_2 (ninS ne_0_5 nin0)))
 have y560 := (A_3.keep K549 (ninS (Ne.symm ne_2_3) (ninS ne_3_5 nin0)))
 refine o_callV X555 j (ct100 a1 a3 o3 o5 x0 x1 ((O_0.keep K549 (allS G_2 (allS G_5 all0)))) k ((E_0.keep K549)) y557 y558 y559 ((E_2.keep K549)) P0549 P1549 P2549 G_2 y560 P3549 ne_0_2 ne_2_3 hh0) rfl rfl (pL20 rfl) (dc35 27 rfl) 201 202 204 203 205 166 ⟨rfl, rfl, rfl, rfl, rfl, rfl⟩ (E_0.keep K549) 0 e555 ?_
 rintro _ T561 L561 X561 ⟨u0561, rfl, M561, K561, P0561, P1561, P2561, P3561, P4561⟩
 have N561 := Fr.app N549 M561
 have l561_0 := (ntr Z0 (ntr K549.1 P0561))
 show oG p e b T561 m 153 #[sR a1, sR a2, sR a3, sI 1, sI 1, sU, sU, sU] [(.int (R100_0 x0 x1))] _
 refine o_istore X561 j (dc35 28 rfl) (Ls' := #[sR a1, sR a2, sR a3, sI 1, sI 1, sI (R100_0 x0 x1), sU, sU]) rfl ?_
 refine o_iloadN X561 j (dc35 29 rfl) rfl ?_
 refine o_ifNoD X561 j (dc35 30 rfl) ?_
 refine o_iload X561 j (dc35 31 rfl) rfl ?_
 refine o_ifNo X561 j (dc35 32 rfl) (teq hh1).2 ?_
 refine o_new X561 j (dc35 33 rfl) 217 165 166 ⟨rfl, rfl, rfl⟩ rfl fun T562 h562 b562 X562 e562 g562 E562 A562 D562 => ?_
 have F562_offset : Ff10 Z h562 b562 (.int 0) := D562 (Or.inl (ot k 173 rfl)) (ty := .int) (by decide)
 have F562_value : Ff11 Z h562 b562 .null := D562 (Or.inl (ot k 175 rfl)) (ty := (.array .int)) (by decide)
 have F562_intLen : Ff9 Z h562 b562 (.int 0) := D562 (Or.inl (ot k 177 rfl)) (ty := .int) (by decide)
 have z562 := ntr (ntr K549.1 K561.1) (nqs g562)
 have l562 := (ntr Z0 z562)
 refine o_dup X562 j (dc35 34 rfl) rfl ?_
 have y563 := (((O_0.keep K549 (allS G_2 (allS G_5 all0))).keep K561 (allS G_2 all0)).ext E562)
 refine o_callSp X562 j (ct31 b562 y563 k A562 (F562_intLen) (F562_offset) (F562_value) l562) rfl rfl (pL3 rfl) (dc35 35 rfl) 218 168 170 166 ⟨rfl, rfl, rfl, rfl⟩ 1 e562 ?_
 rintro _ T564 L564 X564 ⟨u0564, rfl, M564, K564, P0564, P1564, P2564, P3564, P4564⟩
 have N564 := Fr.app N561 M564
 have l564_0 := (ntr Z0 (ntr (ntr (ntr z562 (Nat.le_of_eq g562)) E562.1) P0564))
 show oG p e b T564 m 171 #[sR a1, sR a2, sR a3, sI 1, sI 1, sI (R100_0 x0 x1), sU, sU] [(.ref b562)] _
 have d565 := (nne (nlt A562.lt P0564))
 have d566 := (Ne.symm d565)
 have d567 := (nne (nlt P1561.lt (nqs g562)))
 have d568 := (nne (nlt (nlt P1561.lt E562.1) P0564))
 have d569 := (nne (nlt (nlt (nlt E_2.lt K549.1) K561.1) (nqs g562)))
 have d570 := (nne (nlt (nlt P3549.lt K561.1) (nqs g562)))
 have y571 := (((P3549.keep K561 (ninS (Ne.symm ne_2_5) nin0)).ext E562).keep K564 (ninS d570 nin0))
 exact o_retA X564 j (dc35 36 rfl) rfl ⟨b562, u0564, u0561, rfl, N564, (((((Keep.refl h0 [a3, o5]).trans K549 (allS (mI 0 rfl) (allS (mI 1 rfl) all0))).trans K561 (allS (mI 0 rfl) all0)).ext E562).trans K564 (allS (Or.inr z562) all0)), z562, (ntr (ntr (ntr z562 (Nat.le_of_eq g562)) E562.1) P0564), (ntr K549.1 P0561), d566, d567, d568, (A562.keep K564), P2564, P3564, P4564, P1564, ((P1561.ext E562).keep K564 (ninS d567 nin0)), ((P2561.ext E562).keep K564 (ninS d569 nin0)), ((P3561.ext E562).keep K564 (ninS d569 nin0)), ((P4561.ext E562).keep K564 (ninS d569 nin0)), y571⟩
def H102 (x0 : Int32) (x1 : Int32) : Bool := (H101 x0 x1) && true
theorem ct102 (a1 a2 a3 o3 o4 o5 : Addr) (x0 x1 : Int32) (O_0 : Old Z n0 h0) (k : own_K Z a0 g) (E_0 : Ee3 Z h0 a1) (F0intLen : Ff9 Z h0 a1 (.int 2)) (F0offset : Ff10 Z h0 a1 (.int 0)) (F0value : Ff11 Z h0 a1 (.ref o3)) (E_1 : Ee3 Z h0 a2) (F1intLen : Ff9 Z h0 a2 (.int 1)) (F1offset : Ff10 Z h0 a2 (.int 0)) (F1value : Ff11 Z h0 a2 (.ref o4)) (E_2 : Ee3 Z h0 a3) (F2intLen : Ff9 Z h0 a3 (.int 0)) (F2offset : Ff10 Z h0 a3 (.int 0)) (F2value : Ff11 Z h0 a3 (.ref o5)) (G_2 : n0 ≤ a3) (A_3 : own_Ar Z h0 o3 .int [(.int x0), (.int x1)]) (A_4 : own_Ar Z h0 o4 .int [(.int 1000000000)]) (A_5 : own_Ar Z h0 o5 .int [(.int 0)]) (G_5 : n0 ≤ o5) (ne_0_2 : a1 ≠ a3) (ne_0_5 : a1 ≠ o5) (ne_1_2 : a2 ≠ a3) (ne_1_5 : a2 ≠ o5) (ne_2_3 : a3 ≠ o3) (ne_2_4 : a3 ≠ o4) (ne_2_5 : a3 ≠ o5) (ne_3_5 : o3 ≠ o5) (ne_4_5 : o4 ≠ o5) (hH : H102 x0 x1 = true) :
 mM34 l ws (oR 3 3 6 60) #[(.ref a1), (.ref a2), (.ref a3)] Z h0 fun v h L => ∃ (u0572 : Addr) (u1572 : Addr) (u2572 : Addr), v = some (.ref u0572) ∧ Fr n0 L ∧ Keep h0 h [a3, o5] ∧ h0.size ≤ u0572 ∧ h0.size ≤ u1572 ∧ h0.size ≤ u2572 ∧ u1572 ≠ u0572 ∧ u2572 ≠ u0572 ∧ u2572 ≠ u1572 ∧ Ee3 Z h u0572 ∧ Ff9 Z h u0572 (.int 0) ∧ Ff10 Z h u0572 (.int 0) ∧ Ff11 Z h u0572 (.ref u1572) ∧ own_Ar Z h u1572 .int [(.int 0)] ∧ own_Ar Z h u2572 .int [(.int (R100_1 x0)), (.int (D100_3 x0 x1))] ∧ Ff9 Z h a3 (.int 2) ∧ Ff10 Z h a3 (.int 0) ∧ Ff11 Z h a3 (.ref u2572) ∧ own_Ar Z h o5 .int [(.int 0)] := by
 refine o_body own_pn34 k.1 (ef24 _ _ _) ?_
 intro p e s m b _ c T0 X0 j e0
 have N0 := Fr.nil n0
 have Z0 := own_Z0 O_0
 obtain ⟨hh0, q0⟩ := own_and hH
 refine o_aloadN X0 j (dc34 0 rfl) rfl rfl ?_
 refine o_aloadN X0 j (dc34 1 rfl) rfl rfl ?_
 refine o_aloadN X0 j (dc34 2 rfl) rfl rfl ?_
 refine o_iconstL X0 j (dc34 3 rfl) 1 ?_
 refine o_callV X0 j (ct101 a1 a2 a3 o3 o4 o5 x0 x1 O_0 k E_0 (F0intLen) (F0offset) (F0value) E_1 (F1intLen) (F1offset) (F1value) E_2 (F2intLen) (F2offset) (F2value) G_2 A_3 A_4 A_5 G_5 ne_0_2 ne_0_5 ne_1_2 ne_1_5 ne_2_3 ne_2_4 ne_2_5 ne_3_5 ne_4_5 hh0) rfl rfl (pL21 rfl) (dc34 4 rfl) 186 187 189 188 190 166 ⟨rfl, rfl, rfl, rfl, rfl, rfl⟩ E_0 0 e0 ?_
 rintro _ T572 L572 X572 ⟨u0572, u1572, u2572, rfl, M572, K572, P0572, P1572, P2572, P3572, P4572, P5572, P6572, P7572, P8572, P9572, P10572, P11572, P12572, P13572, P14572, P15572⟩
 have N572 := Fr.app N0 M572
 have l572_0 := (ntr Z0 P0572)
 have l572_1 := (ntr Z0 P1572)
 have l572_2 := (ntr Z0 P2572)
 show oG p e b T572 m 7 #[sR a1, sR a2, sR a3] [(.ref u0572)] _
 exact o_retA X572 j (dc34 5 rfl) rfl ⟨u0572, u1572, u2572, rfl, N572, ((Keep.refl h0 [a3, o5]).trans K572 (allS (mI 0 rfl) (allS (mI 1 rfl) all0))), P0572, P1572, P2572, P3572, P4572, P5572, P6572, P7572, P8572, P9572, P10572, P11572, P12572, P13572, P14572, P15572⟩
theorem ct103 (a1 o1 : Addr) (x0 x1 : Int32) (O_0 : Old Z n0 h0) (k : own_K Z a0 g) (E_0 : Ee3 Z h0 a1) (F0intLen : Ff9 Z h0 a1 (.int 2)) (F0offset : Ff10 Z h0 a1 (.int 0)) (F0value : Ff11 Z h0 a1 (.ref o1)) (A_1 : own_Ar Z h0 o1 .int [(.int x0), (.int x1)]) :
 mM42 l ws (oR 0 0 0 0) #[(.ref a1)] Z h0 fun v h L => v = some (.ref o1) ∧ Fr n0 L ∧ h = h0 := by
 refine o_body own_pn42 k.1 (ef28 _) ?_
 intro p e s m b _ c T0 X0 j e0
 have N0 := Fr.nil n0
 have Z0 := own_Z0 O_0
 refine o_aloadN X0 j (dc42 0 rfl) rfl rfl ?_
 refine o_getF X0 j (dc42 1 rfl) 172 rfl e0 F0offset fun T573 X573 e573 => ?_
 refine o_ifNoD X573 j (dc42 2 rfl) ?_
 refine o_aloadN X573 j (dc42 3 rfl) rfl rfl ?_
 refine o_getF X573 j (dc42 4 rfl) 174 rfl e573 F0value fun T574 X574 e574 => ?_
 refine o_len X574 j (dc42 5 rfl) e574 A_1 2 ?_
 refine o_aloadN X574 j (dc42 6 rfl) rfl rfl ?_
 refine o_getF X574 j (dc42 7 rfl) 176 rfl e574 F0intLen fun T575 X575 e575 => ?_
 refine o_icmpYesD X575 j (dc42 8 rfl) 64 ?_
 refine o_aloadN X575 j (dc42 34 rfl) rfl rfl ?_
 refine o_getF X575 j (dc42 35 rfl) 174 rfl e575 F0value fun T576 X576 e576 => ?_
 exact o_retA X576 j (dc42 36 rfl) rfl ⟨rfl, N0, e576⟩
theorem ct104 (a1 a2 : Addr) (x0 x1 : Int32) (O_0 : Old Z n0 h0) (k : own_K Z a0 g) (E_0 : Ee0 Z h0 a1) (F0bitLengthPlusOne : Ff8 Z h0 a1 (.int 0)) (F0mag : Ff1 Z h0 a1 .null) (F0signum : Ff0 Z h0 a1 (.int 0)) (G_0 : n0 ≤ a1) (A_1 : own_Ar Z h0 a2 .int [(.int x0), (.int x1)]) (ne_0_1 : a1 ≠ a2) :
 mM48 l ws (oR 2 0 0 24) #[(.ref a1), (.ref a2), (.int 1)] Z h0 fun v h L => v = none ∧ Fr n0 L ∧ Keep h0 h [a1] ∧ Ff8 Z h a1 (.int 0) ∧ Ff1 Z h a1 (.ref a2) ∧ Ff0 Z h a1 (.int 1) := by
 refine o_body own_pn48 k.1 (ef29 _ _ _) ?_
 intro p e s m b _ c T0 X0 j e0
 have N0 := Fr.nil n0
 have Z0 := own_Z0 O_0
 refine o_aloadN X0 j (dc48 0 rfl) rfl rfl ?_
 refine o_callSp X0 j (ct25 a1 O_0 k E_0) rfl rfl (pL3 rfl) (dc48 1 rfl) 145 83 87 86 ⟨rfl, rfl, rfl, rfl⟩ 0 e0 ?_
 rintro _ T577 L577 X577 ⟨rfl, M577, e577⟩
 have N577 := Fr.app N0 M577
 show oG p e b T577 m 4 #[sR a1, sR a2, sI 1] [] _
 refine o_aloadN X577 j (dc48 2 rfl) rfl rfl ?_
 refine o_aloadN X577 j (dc48 3 rfl) rfl rfl ?_
 refine o_len X577 j (dc48 4 rfl) e577 A_1 2 ?_
 refine o_ifYesD X577 j (dc48 5 rfl) 14 ?_
 refine o_iloadN X577 j (dc48 6 rfl) rfl ?_
 refine o_putf X577 j (dc48 7 rfl) 147 148 140 ⟨rfl, rfl, rfl⟩ .int e577 F0signum E_0 fun T578 h578 X578 e578 W578 => ?_
 have F578 := (F0signum).same W578
 have N578 := Fr.snoc X578 N577 G_0
 refine o_aloadN X578 j (dc48 8 rfl) rfl rfl ?_
 refine o_aloadN X578 j (dc48 9 rfl) rfl rfl ?_
 have y580 := (F0mag.other W578 (Or.inr (sn12 k)))
 refine o_putf X578 j (dc48 10 rfl) 150 151 140 ⟨rfl, rfl, rfl⟩ (.array .int) e578 y580 (E_0.wr W578) fun T579 h579 X579 e579 W579 => ?_
 have F579 := y580.same W579
 have N579 := Fr.snoc X579 N578 G_0
 refine o_aloadN X579 j (dc48 11 rfl) rfl rfl ?_
 refine o_getF X579 j (dc48 12 rfl) 150 rfl e579 F579 fun T581 X581 e581 => ?_
 have y582 := ((A_1.other W578 (Ne.symm ne_0_1)).other W579 (Ne.symm ne_0_1))
 refine o_len X581 j (dc48 13 rfl) e581 y582 2 ?_
 refine o_ldc X581 j (dc48 14 rfl) 253 rfl ?_
 refine o_icmpYesD X581 j (dc48 15 rfl) 37 ?_
 have y583 := ((F0bitLengthPlusOne.other W578 (Or.inr (sn13 k))).other W579 (Or.inr (sn14 k)))
 have y584 := (F578.other W579 (Or.inr (sn15 k)))
 exact o_retV X581 j (dc48 16 rfl) e581 ⟨rfl, N579, (((Keep.refl h0 [a1]).wr W578 (mI 0 rfl)).wr W579 (mI 0 rfl)), y583, F579, y584⟩
theorem ct105 (a1 o1 : Addr) (x0 x1 : Int32) (O_0 : Old Z n0 h0) (k : own_K Z a0 g) (E_0 : Ee3 Z h0 a1) (F0intLen : Ff9 Z h0 a1 (.int 2)) (F0offset : Ff10 Z h0 a1 (.int 0)) (F0value : Ff11 Z h0 a1 (.ref o1)) (A_1 : own_Ar Z h0 o1 .int [(.int x0), (.int x1)]) :
 mM41 l ws (oR 3 1 6 39) #[(.ref a1), (.int 1)] Z h0 fun v h L => ∃ (b586 : Addr), v = some (.ref b586) ∧ Fr n0 L ∧ Keep h0 h [] ∧ h0.size ≤ b586 ∧ Ee0 Z h b586 ∧ Ff8 Z h b586 (.int 0) ∧ Ff1 Z h b586 (.ref o1) ∧ Ff0 Z h b586 (.int 1) := by
 refine o_body own_pn41 k.1 (ef30 _ _) ?_
 intro p e s m b _ c T0 X0 j e0
 have N0 := Fr.nil n0
 have Z0 := own_Z0 O_0
 refine o_aloadN X0 j (dc41 0 rfl) rfl rfl ?_
 refine o_getF X0 j (dc41 1 rfl) 176 rfl e0 F0intLen fun T585 X585 e585 => ?_
 refine o_ifNoD X585 j (dc41 2 rfl) ?_
 refine o_iloadN X585 j (dc41 3 rfl) rfl ?_
 refine o_ifYesD X585 j (dc41 4 rfl) 15 ?_
 refine o_new X585 j (dc41 7 rfl) 224 140 136 ⟨rfl, rfl, rfl⟩ e585 fun T586 h586 b586 X586 e586 g586 E586 A586 D586 => ?_
 have F586_signum : Ff0 Z h586 b586 (.int 0) := D586 (Or.inr (ot k 148 rfl)) (ty := .int) (by decide)
 have F586_mag : Ff1 Z h586 b586 .null := D586 (Or.inr (ot k 151 rfl)) (ty := (.array .int)) (by decide)
 have F586_bitLengthPlusOne : Ff8 Z h586 b586 (.int 0) := D586 (Or.inl (ot k 261 rfl)) (ty := .int) (by decide)
 have z586 := ntr (Nat.le_refl _) (nqs g586)
 have l586 := (ntr Z0 z586)
 refine o_dup X586 j (dc41 8 rfl) rfl ?_
 refine o_aloadN X586 j (dc41 9 rfl) rfl rfl ?_
 refine o_callPv X586 j (ct103 a1 o1 x0 x1 ((O_0.ext E586)) k ((E_0.ext E586)) ((F0intLen.ext E586)) ((F0offset.ext E586)) ((F0value.ext E586)) ((A_1.ext E586))) rfl rfl (pL26 rfl) (dc41 10 rfl) 225 227 228 226 229 166 ⟨rfl, rfl, rfl, rfl, rfl, rfl⟩ (E_0.ext E586) 2 e586 ?_
 rintro _ T587 L587 X587 ⟨rfl, M587, e587⟩
 have N587 := Fr.app N0 M587
 show oG p e b T587 m 23 #[sR a1, sI 1] [(.ref o1), (.ref b586), (.ref b586)] _
 refine o_iloadN X587 j (dc41 11 rfl) rfl ?_
 have d588 := (nne (nlt A_1.lt (nqs g586)))
 have d589 := (Ne.symm d588)
 refine o_callSp X587 j (ct104 b586 o1 x0 x1 ((O_0.ext E586)) k A586 (F586_bitLengthPlusOne) (F586_mag) (F586_signum) l586 ((A_1.ext E586)) d589) rfl rfl (pL25 rfl) (dc41 12 rfl) 250 251 252 136 ⟨rfl, rfl, rfl, rfl⟩ 1 e587 ?_
 rintro _ T590 L590 X590 ⟨rfl, M590, K590, P0590, P1590, P2590⟩
 have N590 := Fr.app N587 M590
 show oG p e b T590 m 27 #[sR a1, sI 1] [(.ref b586)] _
 exact o_retA X590 j (dc41 13 rfl) rfl ⟨b586, rfl, N590, (((Keep.refl h0 []).ext E586).trans K590 (allS (Or.inr z586) all0)), z586, (A586.keep K590), P0590, P1590, P2590⟩
def H106 (x0 : Int32) (x1 : Int32) : Bool := (H102 x0 x1) && true
theorem ct106 (a1 a2 o2 o3 : Addr) (x0 x1 : Int32) (O_0 : Old Z n0 h0) (k : own_K Z a0 g) (E_0 : Ee0 Z h0 a1) (F0mag : Ff1 Z h0 a1 (.ref o2)) (F0signum : Ff0 Z h0 a1 (.int 1)) (E_1 : Ee0 Z h0 a2) (F1mag : Ff1 Z h0 a2 (.ref o3)) (F1signum : Ff0 Z h0 a2 (.int 1)) (A_2 : own_Ar Z h0 o2 .int [(.int x0), (.int x1)]) (A_3 : own_Ar Z h0 o3 .int [(.int 1000000000)]) (hH : H106 x0 x1 = true) :
 mM31 l ws (oR 4 9 24 74) #[(.ref a1), (.ref a2)] Z h0 fun v h L => ∃ (b591 : Addr) (u0642 : Addr) (u2631 : Addr), v = some (.ref b591) ∧ Fr n0 L ∧ Keep h0 h [] ∧ h0.size ≤ b591 ∧ h0.size ≤ u0642 ∧ h0.size ≤ u2631 ∧ u0642 ≠ b591 ∧ u2631 ≠ b591 ∧ u2631 ≠ u0642 ∧ own_Ra Z h b591 "java/math/BigInteger" [(.ref u0642), (.ref (g 0))] ∧ Ee0 Z h u0642 ∧ Ff8 Z h u0642 (.int 0) ∧ Ff1 Z h u0642 (.ref u2631) ∧ Ff0 Z h u0642 (.int 1) ∧ own_Ar Z h u2631 .int [(.int (R100_1 x0)), (.int (D100_3 x0 x1))] := by
 refine o_body own_pn31 k.1 (ef31 _ _) ?_
 intro p e s m b _ c T0 X0 j e0
 obtain ⟨hx, hby, hml, hown, hnm, hret, hlk, hZ, hw⟩ := id j
 have N0 := Fr.nil n0
 have Z0 := own_Z0 O_0
 obtain ⟨hh0, q0⟩ := own_and hH
 refine o_iconstL X0 j (dc31 0 rfl) 2 ?_
 refine own_newR X0 hx hby (dc31 1 rfl).1 (pc' := 4) rfl hZ hown (ot k 139 rfl) (ot k 163 rfl) e0 (by decide) (cap := 2) (by decide) (by decide) (by decide) (by decide) rfl (vs := [.null, .null]) (by rfl) ?_
 intro T591 h591 b591 X591 e591 g591 E591 R591 C591
 have z591 := ntr (Nat.le_refl _) (nqs g591)
 have l591 := (ntr Z0 z591)
 refine o_astoreN X591 j (dc31 2 rfl) rfl (Ls' := #[sR a1, sR a2, sR b591, sU, sU, sU, sU]) rfl ?_
 refine o_new X591 j (dc31 3 rfl) 164 165 166 ⟨rfl, rfl, rfl⟩ e591 fun T592 h592 b592 X592 e592 g592 E592 A592 D592 => ?_
 have F592_offset : Ff10 Z h592 b592 (.int 0) := D592 (Or.inl (ot k 173 rfl)) (ty := .int) (by decide)
 have F592_value : Ff11 Z h592 b592 .null := D592 (Or.inl (ot k 175 rfl)) (ty := (.array .int)) (by decide)
 have F592_intLen : Ff9 Z h592 b592 (.int 0) := D592 (Or.inl (ot k 177 rfl)) (ty := .int) (by decide)
 have z592 := ntr E591.1 (nqs g592)
 have l592 := (ntr Z0 z592)
 refine o_dup X592 j (dc31 4 rfl) rfl ?_
 refine o_callSp X592 j (ct31 b592 (((O_0.ext E591).ext E592)) k A592 (F592_intLen) (F592_offset) (F592_value) l592) rfl rfl (pL3 rfl) (dc31 5 rfl) 167 168 170 166 ⟨rfl, rfl, rfl, rfl⟩ 1 e592 ?_
 rintro _ T593 L593 X593 ⟨u0593, rfl, M593, K593, P0593, P1593, P2593, P3593, P4593⟩
 have N593 := Fr.app N0 M593
 have l593_0 := (ntr Z0 (ntr (ntr (ntr z592 (Nat.le_of_eq g592)) E592.1) P0593))
 show oG p e b T593 m 12 #[sR a1, sR a2, sR b591, sU, sU, sU, sU] [(.ref b592)] _
 refine o_astoreN X593 j (dc31 6 rfl) rfl (Ls' := #[sR a1, sR a2, sR b591, sR b592, sU, sU, sU]) rfl ?_
 refine o_new X593 j (dc31 7 rfl) 164 165 166 ⟨rfl, rfl, rfl⟩ rfl fun T594 h594 b594 X594 e594 g594 E594 A594 D594 => ?_
 have F594_offset : Ff10 Z h594 b594 (.int 0) := D594 (Or.inl (ot k 173 rfl)) (ty := .int) (by decide)
 have F594_value : Ff11 Z h594 b594 .null := D594 (Or.inl (ot k 175 rfl)) (ty := (.array .int)) (by decide)
 have F594_intLen : Ff9 Z h594 b594 (.int 0) := D594 (Or.inl (ot k 177 rfl)) (ty := .int) (by decide)
 have z594 := ntr (ntr (ntr (ntr z592 (Nat.le_of_eq g592)) E592.1) K593.1) (nqs g594)
 have l594 := (ntr Z0 z594)
 refine o_dup X594 j (dc31 8 rfl) rfl ?_
 refine o_aloadN X594 j (dc31 9 rfl) rfl rfl ?_
 have d595 := (nne (nlt (nlt E_0.lt E591.1) (nqs g592)))
 have y596 := ((((F0mag.ext E591).ext E592).keep K593 (ninS d595 nin0)).ext E594)
 refine o_getF X594 j (dc31 10 rfl) 150 rfl e594 y596 fun T597 X597 e597 => ?_
 have y598 := ((((O_0.ext E591).ext E592).keep K593 (allS l592 all0)).ext E594)
 have d599 := (nne (nlt (nlt A_2.lt E591.1) (nqs g592)))
 have y600 := ((((A_2.ext E591).ext E592).keep K593 (ninS d599 nin0)).ext E594)
 have d601 := (nne (nlt (nlt (nlt (nlt A_2.lt E591.1) E592.1) K593.1) (nqs g594)))
 have d602 := (Ne.symm d601)
 refine o_callSp X597 j (ct32 b594 o2 x0 x1 y598 k A594 (F594_intLen) (F594_offset) (F594_value) l594 y600 d602) rfl rfl (pL27 rfl) (dc31 11 rfl) 178 179 180 166 ⟨rfl, rfl, rfl, rfl⟩ 1 e597 ?_
 rintro _ T603 L603 X603 ⟨rfl, M603, K603, P0603, P1603, P2603⟩
 have N603 := Fr.app N593 M603
 show oG p e b T603 m 24 #[sR a1, sR a2, sR b591, sR b592, sU, sU, sU] [(.ref b594)] _
 refine o_astore X603 j (dc31 12 rfl) rfl (Ls' := #[sR a1, sR a2, sR b591, sR b592, sR b594, sU, sU]) rfl ?_
 refine o_new X603 j (dc31 13 rfl) 164 165 166 ⟨rfl, rfl, rfl⟩ rfl fun T604 h604 b604 X604 e604 g604 E604 A604 D604 => ?_
 have F604_offset : Ff10 Z h604 b604 (.int 0) := D604 (Or.inl (ot k 173 rfl)) (ty := .int) (by decide)
 have F604_value : Ff11 Z h604 b604 .null := D604 (Or.inl (ot k 175 rfl)) (ty := (.array .int)) (by decide)
 have F604_intLen : Ff9 Z h604 b604 (.int 0) := D604 (Or.inl (ot k 177 rfl)) (ty := .int) (by decide)
 have z604 := ntr (ntr (ntr (ntr z594 (Nat.le_of_eq g594)) E594.1) K603.1) (nqs g604)
 have l604 := (ntr Z0 z604)
 refine o_dup X604 j (dc31 14 rfl) rfl ?_
 refine o_aloadN X604 j (dc31 15 rfl) rfl rfl ?_
 have d605 := (nne (nlt (nlt E_1.lt E591.1) (nqs g592)))
 have d606 := (nne (nlt (nlt (nlt (nlt E_1.lt E591.1) E592.1) K593.1) (nqs g594)))
 have y607 := ((((((F1mag.ext E591).ext E592).keep K593 (ninS d605 nin0)).ext E594).keep K603 (ninS d606 nin0)).ext E604)
 refine o_getF X604 j (dc31 16 rfl) 150 rfl e604 y607 fun T608 X608 e608 => ?_
 have d609 := (nne (nlt (nlt A_3.lt E591.1) (nqs g592)))
 have d610 := (nne (nlt (nlt (nlt (nlt A_3.lt E591.1) E592.1) K593.1) (nqs g594)))
 have y611 := ((((((A_3.ext E591).ext E592).keep K593 (ninS d609 nin0)).ext E594).keep K603 (ninS d610 nin0)).ext E604)
 have d612 := (nne (nlt (nlt (nlt (nlt (nlt (nlt A_3.lt E591.1) E592.1) K593.1) E594.1) K603.1) (nqs g604)))
 have d613 := (Ne.symm d612)
 refine o_callSp X608 j (ct33 b604 o3 (((y598.keep K603 (allS l594 all0)).ext E604)) k A604 (F604_intLen) (F604_offset) (F604_value) l604 y611 d613) rfl rfl (pL27 rfl) (dc31 17 rfl) 178 179 180 166 ⟨rfl, rfl, rfl, rfl⟩ 1 e608 ?_
 rintro _ T614 L614 X614 ⟨rfl, M614, K614, P0614, P1614, P2614⟩
 have N614 := Fr.app N603 M614
 show oG p e b T614 m 37 #[sR a1, sR a2, sR b591, sR b592, sR b594, sU, sU] [(.ref b604)] _
 refine o_astore X614 j (dc31 18 rfl) rfl (Ls' := #[sR a1, sR a2, sR b591, sR b592, sR b594, sR b604, sU]) rfl ?_
 refine o_aload X614 j (dc31 19 rfl) rfl rfl ?_
 refine o_aload X614 j (dc31 20 rfl) rfl rfl ?_
 refine o_aloadN X614 j (dc31 21 rfl) rfl rfl ?_
 have y615 := (((y598.keep K603 (allS l594 all0)).ext E604).keep K614 (allS l604 all0))
 have d616 := (nne (nlt (nlt A594.lt K603.1) (nqs g604)))
 have y617 := (((((A592.keep K593).ext E594).keep K603).ext E604).keep K614)
 have d618 := (nne (nlt (nlt A592.lt K593.1) (nqs g594)))
 have d619 := (nne (nlt (nlt (nlt (nlt A592.lt K593.1) E594.1) K603.1) (nqs g604)))
 have y620 := ((((P2593.ext E594).keep K603 (ninS d618 nin0)).ext E604).keep K614 (ninS d619 nin0))
 have y621 := ((((P3593.ext E594).keep K603 (ninS d618 nin0)).ext E604).keep K614 (ninS d619 nin0))
 have y622 := ((((P4593.ext E594).keep K603 (ninS d618 nin0)).ext E604).keep K614 (ninS d619 nin0))
 have d623 := (nne (nlt (nlt (nlt (nlt (nlt (nlt A_2.lt E591.1) E592.1) K593.1) E594.1) K603.1) (nqs g604)))
 have y624 := (((y600.keep K603 (ninS d601 nin0)).ext E604).keep K614 (ninS d623 nin0))
 have d625 := (nne (nlt P1593.lt (nqs g594)))
 have d626 := (nne (nlt (nlt (nlt P1593.lt E594.1) K603.1) (nqs g604)))
 have y627 := ((((P1593.ext E594).keep K603 (ninS d625 nin0)).ext E604).keep K614 (ninS d626 nin0))
 have d628 := (nne (nlt A592.lt P0593))
 have d629 := (nne (nlt (nlt (nlt A_2.lt E591.1) E592.1) P0593))
 have d630 := (nne (nlt (nlt (nlt A_3.lt E591.1) E592.1) P0593))
 refine o_callV X614 j (ct102 b594 b604 b592 o2 o3 u0593 x0 x1 y615 k ((((A594.keep K603).ext E604).keep K614)) (((P0603.ext E604).keep K614 (ninS d616 nin0))) (((P1603.ext E604).keep K614 (ninS d616 nin0))) (((P2603.ext E604).keep K614 (ninS d616 nin0))) ((A604.keep K614)) P0614 P1614 P2614 y617 y620 y621 y622 l592 y624 ((y611.keep K614 (ninS d612 nin0))) y627 l593_0 (Ne.symm d618) (Ne.symm d625) (Ne.symm d619) (Ne.symm d626) (Ne.symm d599) (Ne.symm d609) d628 d629 d630 hh0) rfl rfl (pL28 rfl) (dc31 22 rfl) 181 182 184 183 185 166 ⟨rfl, rfl, rfl, rfl, rfl, rfl⟩ (((A594.keep K603).ext E604).keep K614) 0 rfl ?_
 rintro _ T631 L631 X631 ⟨u0631, u1631, u2631, rfl, M631, K631, P0631, P1631, P2631, P3631, P4631, P5631, P6631, P7631, P8631, P9631, P10631, P11631, P12631, P13631, P14631, P15631⟩
 have N631 := Fr.app N614 M631
 have l631_0 := (ntr Z0 (ntr (ntr (ntr (ntr z604 (Nat.le_of_eq g604)) E604.1) K614.1) P0631))
 have l631_1 := (ntr Z0 (ntr (ntr (ntr (ntr z604 (Nat.le_of_eq g604)) E604.1) K614.1) P1631))
 have l631_2 := (ntr Z0 (ntr (ntr (ntr (ntr z604 (Nat.le_of_eq g604)) E604.1) K614.1) P2631))
 show oG p e b T631 m 47 #[sR a1, sR a2, sR b591, sR b592, sR b594, sR b604, sU] [(.ref u0631)] _
 refine o_astore X631 j (dc31 23 rfl) rfl (Ls' := #[sR a1, sR a2, sR b591, sR b592, sR b594, sR b604, sR u0631]) rfl ?_
 refine o_aloadN X631 j (dc31 24 rfl) rfl rfl ?_
 refine o_iconstL X631 j (dc31 25 rfl) 0 ?_
 refine o_aloadN X631 j (dc31 26 rfl) rfl rfl ?_
 refine o_aloadN X631 j (dc31 27 rfl) rfl rfl ?_
 have d632 := (nne (nlt (nlt (nlt (nlt E_0.lt E591.1) E592.1) K593.1) (nqs g594)))
 have d633 := (nne (nlt (nlt (nlt (nlt (nlt (nlt E_0.lt E591.1) E592.1) K593.1) E594.1) K603.1) (nqs g604)))
 have d634 := (nne (nlt (nlt (nlt E_0.lt E591.1) E592.1) P0593))
 have y635 := ((((((((F0signum.ext E591).ext E592).keep K593 (ninS d595 nin0)).ext E594).keep K603 (ninS d632 nin0)).ext E604).keep K614 (ninS d633 nin0)).keep K631 (ninS d595 (ninS d634 nin0)))
 refine o_getF X631 j (dc31 28 rfl) 147 rfl rfl y635 fun T636 X636 e636 => ?_
 refine o_aloadN X636 j (dc31 29 rfl) rfl rfl ?_
 have d637 := (nne (nlt (nlt (nlt (nlt (nlt (nlt E_1.lt E591.1) E592.1) K593.1) E594.1) K603.1) (nqs g604)))
 have d638 := (nne (nlt (nlt (nlt E_1.lt E591.1) E592.1) P0593))
 have y639 := ((((((((F1signum.ext E591).ext E592).keep K593 (ninS d605 nin0)).ext E594).keep K603 (ninS d606 nin0)).ext E604).keep K614 (ninS d637 nin0)).keep K631 (ninS d605 (ninS d638 nin0)))
 refine o_getF X636 j (dc31 30 rfl) 147 rfl e636 y639 fun T640 X640 e640 => ?_
 refine o_icmpNoD X640 j (dc31 31 rfl) ?_
 refine o_iconstL X640 j (dc31 32 rfl) 1 ?_
 refine o_goto X640 j (dc31 33 rfl) 68 ?_
 have y641 := (y615.keep K631 (allS l592 (allS l593_0 all0)))
 refine o_callV X640 j (ct105 b592 u2631 (R100_1 x0) (D100_3 x0 x1) y641 k ((y617.keep K631)) P12631 P13631 P14631 P11631) rfl rfl (pL29 rfl) (dc31 34 rfl) 219 220 222 221 223 166 ⟨rfl, rfl, rfl, rfl, rfl, rfl⟩ (y617.keep K631) 2 e640 ?_
 rintro _ T642 L642 X642 ⟨u0642, rfl, M642, K642, P0642, P1642, P2642, P3642, P4642⟩
 have N642 := Fr.app N631 M642
 have l642_0 := (ntr Z0 (ntr (ntr (ntr (ntr (ntr z604 (Nat.le_of_eq g604)) E604.1) K614.1) K631.1) P0642))
 show oG p e b T642 m 71 #[sR a1, sR a2, sR b591, sR b592, sR b594, sR b604, sR u0631] [(.ref u0642), (.int 0), (.ref b591)] _
 have d644 := (nne (nlt R591.lt (nqs g592)))
 have d645 := (nne (nlt (nlt (nlt R591.lt E592.1) K593.1) (nqs g594)))
 have d646 := (nne (nlt (nlt (nlt (nlt (nlt R591.lt E592.1) K593.1) E594.1) K603.1) (nqs g604)))
 have d647 := (nne (nlt (nlt R591.lt E592.1) P0593))
 have y648 := ((((((((R591.ext E592).keep K593 (ninS d644 nin0)).ext E594).keep K603 (ninS d645 nin0)).ext E604).keep K614 (ninS d646 nin0)).keep K631 (ninS d644 (ninS d647 nin0))).keep K642 nin0)
 refine own_aastore X642 hx hby (dc31 35 rfl).1 (pc' := 72) rfl hZ rfl y648 (by decide) (w := .null) rfl (Or.inr ⟨_, rfl, (Ins.self P1642)⟩) ?_
 intro T643 h643 X643 e643 W643 R643
 have B643 : own_Ra Z h643 b591 "java/math/BigInteger" [(.ref u0642), .null] := R643
 have N643 := Fr.snoc X643 N642 l591
 refine o_aloadN X643 j (dc31 36 rfl) rfl rfl ?_
 refine o_iconstL X643 j (dc31 37 rfl) 1 ?_
 refine o_aload X643 j (dc31 38 rfl) rfl rfl ?_
 refine o_aloadN X643 j (dc31 39 rfl) rfl rfl ?_
 have d649 := (nne (nlt E_0.lt (nqs g591)))
 have y650 := ((y635.keep K642 nin0).other W643 (Or.inl d649))
 refine o_getF X643 j (dc31 40 rfl) 147 rfl e643 y650 fun T651 X651 e651 => ?_
 have d652 := (nne (nlt (nlt (nlt (nlt (nlt (nlt (nlt R591.lt E592.1) K593.1) E594.1) K603.1) E604.1) K614.1) P0631))
 have d653 := (Ne.symm d652)
 have y654 := ((P7631.keep K642 nin0).other W643 (Or.inl d653))
 refine o_callV X651 j (ct50 u0631 (((y641.keep K642 all0).wr W643 l591)) k (((P6631.keep K642).wr W643)) y654) rfl rfl (pL29 rfl) (dc31 41 rfl) 219 220 222 221 223 166 ⟨rfl, rfl, rfl, rfl, rfl, rfl⟩ ((P6631.keep K642).wr W643) 2 e651 ?_
 rintro _ T655 L655 X655 ⟨rfl, M655, e655⟩
 have N655 := Fr.app N643 M655
 show oG p e b T655 m 83 #[sR a1, sR a2, sR b591, sR b592, sR b594, sR b604, sR u0631] [(.ref (g 0)), (.int 1), (.ref b591)] _
 refine own_aastore X655 hx hby (dc31 42 rfl).1 (pc' := 84) rfl hZ e655 B643 (by decide) (w := .null) rfl (Or.inr ⟨_, rfl, (Ins.self ((k7 k).ext (((y641.keep K642 all0).wr W643 l591)).2))⟩) ?_
 intro T656 h656 X656 e656 W656 R656
 have B656 : own_Ra Z h656 b591 "java/math/BigInteger" [(.ref u0642), (.ref (g 0))] := R656
 have N656 := Fr.snoc X656 N655 l591
 refine o_aloadN X656 j (dc31 43 rfl) rfl rfl ?_
 have d657 := (nne (nlt (nlt (nlt (nlt (nlt (nlt (nlt (nlt R591.lt E592.1) K593.1) E594.1) K603.1) E604.1) K614.1) K631.1) P0642))
 have d658 := (Ne.symm d657)
 have d659 := (nne (nlt (nlt (nlt (nlt (nlt (nlt (nlt R591.lt E592.1) K593.1) E594.1) K603.1) E604.1) K614.1) P2631))
 have d660 := (Ne.symm d659)
 have d661 := (nne (nlt P11631.lt P0642))
 have y662 := ((P2642.other W643 (Or.inl d658)).other W656 (Or.inl d658))
 have y663 := ((P3642.other W643 (Or.inl d658)).other W656 (Or.inl d658))
 have y664 := ((P4642.other W643 (Or.inl d658)).other W656 (Or.inl d658))
 have y665 := (((P11631.keep K642 nin0).other W643 d660).other W656 d660)
 exact o_retA X656 j (dc31 44 rfl) e656 ⟨b591, u0642, u2631, rfl, N656, ((((((((((((Keep.refl h0 []).ext E591).ext E592).trans K593 (allS (Or.inr z592) all0)).ext E594).trans K603 (allS (Or.inr z594) all0)).ext E604).trans K614 (allS (Or.inr z604) all0)).trans K631 (allS (Or.inr z592) (allS (Or.inr (ntr (ntr (ntr z592 (Nat.le_of_eq g592)) E592.1) P0593)) all0))).trans K642 all0).wr W643 (Or.inr z591)).wr W656 (Or.inr z591)), z591, (ntr (ntr (ntr (ntr (ntr z604 (Nat.le_of_eq g604)) E604.1) K614.1) K631.1) P0642), (ntr (ntr (ntr (ntr z604 (Nat.le_of_eq g604)) E604.1) K614.1) P2631), d658, d660, d661, B656, ((P1642.wr W643).wr W656), y662, y663, y664, y665⟩
def H107 (x0 : Int32) (x1 : Int32) : Bool := (H106 x0 x1) && true
theorem ct107 (a1 a2 o2 o3 : Addr) (x0 x1 : Int32) (O_0 : Old Z n0 h0) (k : own_K Z a0 g) (E_0 : Ee0 Z h0 a1) (F0mag : Ff1 Z h0 a1 (.ref o2)) (F0signum : Ff0 Z h0 a1 (.int 1)) (E_1 : Ee0 Z h0 a2) (F1mag : Ff1 Z h0 a2 (.ref o3)) (F1signum : Ff0 Z h0 a2 (.int 1)) (A_2 : own_Ar Z h0 o2 .int [(.int x0), (.int x1)]) (A_3 : own_Ar Z h0 o3 .int [(.int 1000000000)]) (hH : H107 x0 x1 = true) :
 mM30 l ws (oR 5 9 24 92) #[(.ref a1), (.ref a2)] Z h0 fun v h L => ∃ (u0667 : Addr) (u1667 : Addr) (u2667 : Addr), v = some (.ref u0667) ∧ Fr n0 L ∧ Keep h0 h [] ∧ h0.size ≤ u0667 ∧ h0.size ≤ u1667 ∧ h0.size ≤ u2667 ∧ u1667 ≠ u0667 ∧ u2667 ≠ u0667 ∧ u2667 ≠ u1667 ∧ own_Ra Z h u0667 "java/math/BigInteger" [(.ref u1667), (.ref (g 0))] ∧ Ee0 Z h u1667 ∧ Ff8 Z h u1667 (.int 0) ∧ Ff1 Z h u1667 (.ref u2667) ∧ Ff0 Z h u1667 (.int 1) ∧ own_Ar Z h u2667 .int [(.int (R100_1 x0)), (.int (D100_3 x0 x1))] := by
 refine o_body own_pn30 k.1 (ef12 _ _) ?_
 intro p e s m b _ c T0 X0 j e0
 have N0 := Fr.nil n0
 have Z0 := own_Z0 O_0
 obtain ⟨hh0, q0⟩ := own_and hH
 refine o_aloadN X0 j (dc30 0 rfl) rfl rfl ?_
 refine o_getF X0 j (dc30 1 rfl) 150 rfl e0 F1mag fun T666 X666 e666 => ?_
 refine o_len X666 j (dc30 2 rfl) e666 A_3 1 ?_
 refine o_bipushL X666 j (dc30 3 rfl) 80 ?_
 refine o_icmpYesD X666 j (dc30 4 rfl) 26 ?_
 refine o_aloadN X666 j (dc30 5 rfl) rfl rfl ?_
 refine o_aloadN X666 j (dc30 6 rfl) rfl rfl ?_
 refine o_callPv X666 j (ct106 a1 a2 o2 o3 x0 x1 O_0 k E_0 (F0mag) (F0signum) E_1 (F1mag) (F1signum) A_2 A_3 hh0) rfl rfl (pL30 rfl) (dc30 7 rfl) 158 160 161 159 162 136 ⟨rfl, rfl, rfl, rfl, rfl, rfl⟩ E_0 0 e666 ?_
 rintro _ T667 L667 X667 ⟨u0667, u1667, u2667, rfl, M667, K667, P0667, P1667, P2667, P3667, P4667, P5667, P6667, P7667, P8667, P9667, P10667, P11667⟩
 have N667 := Fr.app N0 M667
 have l667_0 := (ntr Z0 P0667)
 have l667_1 := (ntr Z0 P1667)
 have l667_2 := (ntr Z0 P2667)
 show oG p e b T667 m 31 #[sR a1, sR a2] [(.ref u0667)] _
 exact o_retA X667 j (dc30 8 rfl) rfl ⟨u0667, u1667, u2667, rfl, N667, ((Keep.refl h0 []).trans K667 all0), P0667, P1667, P2667, P3667, P4667, P5667, P6667, P7667, P8667, P9667, P10667, P11667⟩
def D108_0 (x0 : Int32) : Int32 := ((32 : Int32) + ((32 : Int32) - (own_nlz x0)))
theorem ct108 (a1 o1 : Addr) (x0 x1 : Int32) (O_0 : Old Z n0 h0) (k : own_K Z a0 g) (E_0 : Ee0 Z h0 a1) (F0bitLengthPlusOne : Ff8 Z h0 a1 (.int 0)) (F0mag : Ff1 Z h0 a1 (.ref o1)) (F0signum : Ff0 Z h0 a1 (.int 1)) (G_0 : n0 ≤ a1) (A_1 : own_Ar Z h0 o1 .int [(.int x0), (.int x1)]) :
 mM49 l ws (oR 2 0 0 27) #[(.ref a1)] Z h0 fun v h L => v = some (.int (D108_0 x0)) ∧ Fr n0 L ∧ Keep h0 h [a1] ∧ Ff8 Z h a1 (.int ((D108_0 x0) + (1 : Int32))) ∧ Ff1 Z h a1 (.ref o1) ∧ Ff0 Z h a1 (.int 1) := by
 refine o_body own_pn49 k.1 (ef32 _) ?_
 intro p e s m b _ c T0 X0 j e0
 have N0 := Fr.nil n0
 have Z0 := own_Z0 O_0
 refine o_aloadN X0 j (dc49 0 rfl) rfl rfl ?_
 refine o_getF X0 j (dc49 1 rfl) 260 rfl e0 F0bitLengthPlusOne fun T668 X668 e668 => ?_
 refine o_iconstL X668 j (dc49 2 rfl) 1 ?_
 refine o_isubL X668 j (dc49 3 rfl) (-1) ?_
 refine o_istoreN X668 j (dc49 4 rfl) (Ls' := #[sR a1, sI (-1), sU, sU, sU, sU, sU]) rfl ?_
 refine o_iloadN X668 j (dc49 5 rfl) rfl ?_
 refine o_iconstL X668 j (dc49 6 rfl) (-1) ?_
 refine o_icmpNoD X668 j (dc49 7 rfl) ?_
 refine o_aloadN X668 j (dc49 8 rfl) rfl rfl ?_
 refine o_getF X668 j (dc49 9 rfl) 150 rfl e668 F0mag fun T669 X669 e669 => ?_
 refine o_astoreN X669 j (dc49 10 rfl) rfl (Ls' := #[sR a1, sI (-1), sR o1, sU, sU, sU, sU]) rfl ?_
 refine o_aloadN X669 j (dc49 11 rfl) rfl rfl ?_
 refine o_len X669 j (dc49 12 rfl) e669 A_1 2 ?_
 refine o_istoreN X669 j (dc49 13 rfl) (Ls' := #[sR a1, sI (-1), sR o1, sI 2, sU, sU, sU]) rfl ?_
 refine o_iloadN X669 j (dc49 14 rfl) rfl ?_
 refine o_ifYesD X669 j (dc49 15 rfl) 29 ?_
 refine o_iloadN X669 j (dc49 16 rfl) rfl ?_
 refine o_iconstL X669 j (dc49 17 rfl) 1 ?_
 refine o_isubL X669 j (dc49 18 rfl) 1 ?_
 refine o_iconstL X669 j (dc49 19 rfl) 5 ?_
 refine o_ishlL X669 j (dc49 20 rfl) 32 ?_
 refine o_aloadN X669 j (dc49 21 rfl) rfl rfl ?_
 refine o_getF X669 j (dc49 22 rfl) 150 rfl e669 F0mag fun T670 X670 e670 => ?_
 refine o_iconstL X670 j (dc49 23 rfl) 0 ?_
 refine o_iaload X670 j (dc49 24 rfl) e670 A_1 (.int x0) ?_
 refine o_callS X670 j (ct90 x0 O_0 k) rfl rfl (pL18 rfl) (dc49 25 rfl) 262 263 136 264 ⟨rfl, rfl, rfl, rfl⟩ 1 e670 ?_
 rintro _ T671 L671 X671 ⟨rfl, M671, e671⟩
 have N671 := Fr.app N0 M671
 show oG p e b T671 m 43 #[sR a1, sI (-1), sR o1, sI 2, sU, sU, sU] [(.int ((32 : Int32) - (own_nlz x0))), (.int 32)] _
 refine o_iadd X671 j (dc49 26 rfl) ?_
 refine o_istore X671 j (dc49 27 rfl) (Ls' := #[sR a1, sI (-1), sR o1, sI 2, sI (D108_0 x0), sU, sU]) rfl ?_
 refine o_aloadN X671 j (dc49 28 rfl) rfl rfl ?_
 refine o_getF X671 j (dc49 29 rfl) 147 rfl e671 F0signum fun T672 X672 e672 => ?_
 refine o_ifYesD X672 j (dc49 30 rfl) 128 ?_
 refine o_iload X672 j (dc49 31 rfl) rfl ?_
 refine o_istoreN X672 j (dc49 32 rfl) (Ls' := #[sR a1, sI (D108_0 x0), sR o1, sI 2, sI (D108_0 x0), sU, sU]) rfl ?_
 refine o_aloadN X672 j (dc49 33 rfl) rfl rfl ?_
 refine o_iloadN X672 j (dc49 34 rfl) rfl ?_
 refine o_iconstL X672 j (dc49 35 rfl) 1 ?_
 refine o_iadd X672 j (dc49 36 rfl) ?_
 refine o_put X672 j (dc49 37 rfl) 260 261 140 ⟨rfl, rfl, rfl⟩ .int e672 F0bitLengthPlusOne E_0 fun T673 h673 X673 e673 W673 => ?_
 have F673 := (F0bitLengthPlusOne).same W673
 have N673 := Fr.snoc X673 N671 G_0
 refine o_iloadN X673 j (dc49 38 rfl) rfl ?_
 have y674 := (F0mag.other W673 (Or.inr (sn22 k)))
 have y675 := (F0signum.other W673 (Or.inr (sn23 k)))
 exact o_retI X673 j (dc49 39 rfl) e673 ⟨rfl, N673, ((Keep.refl h0 [a1]).wr W673 (mI 0 rfl)), F673, y674, y675⟩
theorem ct109 (a1 o1 : Addr) (x0 x1 : Int32) (O_0 : Old Z n0 h0) (k : own_K Z a0 g) (E_0 : Ee0 Z h0 a1) (F0mag : Ff1 Z h0 a1 (.ref o1)) (F0signum : Ff0 Z h0 a1 (.int 1)) (A_1 : own_Ar Z h0 o1 .int [(.int x0), (.int x1)]) :
 mM52 l ws (oR 0 0 0 0) #[(.ref a1), (.int 1)] Z h0 fun v h L => v = some (.int x0) ∧ Fr n0 L ∧ h = h0 := by
 refine o_body own_pn52 k.1 (ef33 _ _) ?_
 intro p e s m b _ c T0 X0 j e0
 have N0 := Fr.nil n0
 have Z0 := own_Z0 O_0
 refine o_iloadN X0 j (dc52 0 rfl) rfl ?_
 refine o_ifYesD X0 j (dc52 1 rfl) 6 ?_
 refine o_iloadN X0 j (dc52 2 rfl) rfl ?_
 refine o_aloadN X0 j (dc52 3 rfl) rfl rfl ?_
 refine o_getF X0 j (dc52 4 rfl) 150 rfl e0 F0mag fun T676 X676 e676 => ?_
 refine o_len X676 j (dc52 5 rfl) e676 A_1 2 ?_
 refine o_icmpYesD X676 j (dc52 6 rfl) 20 ?_
 refine o_aloadN X676 j (dc52 10 rfl) rfl rfl ?_
 refine o_getF X676 j (dc52 11 rfl) 150 rfl e676 F0mag fun T677 X677 e677 => ?_
 refine o_aloadN X677 j (dc52 12 rfl) rfl rfl ?_
 refine o_getF X677 j (dc52 13 rfl) 150 rfl e677 F0mag fun T678 X678 e678 => ?_
 refine o_len X678 j (dc52 14 rfl) e678 A_1 2 ?_
 refine o_iloadN X678 j (dc52 15 rfl) rfl ?_
 refine o_isubL X678 j (dc52 16 rfl) 1 ?_
 refine o_iconstL X678 j (dc52 17 rfl) 1 ?_
 refine o_isubL X678 j (dc52 18 rfl) 0 ?_
 refine o_iaload X678 j (dc52 19 rfl) e678 A_1 (.int x0) ?_
 refine o_istoreN X678 j (dc52 20 rfl) (Ls' := #[sR a1, sI 1, sI x0]) rfl ?_
 refine o_aloadN X678 j (dc52 21 rfl) rfl rfl ?_
 refine o_getF X678 j (dc52 22 rfl) 147 rfl e678 F0signum fun T679 X679 e679 => ?_
 refine o_ifNoD X679 j (dc52 23 rfl) ?_
 refine o_iloadN X679 j (dc52 24 rfl) rfl ?_
 refine o_goto X679 j (dc52 25 rfl) 62 ?_
 exact o_retI X679 j (dc52 26 rfl) rfl ⟨rfl, N0, e679⟩
theorem ct110 (a1 o1 : Addr) (x0 x1 : Int32) (O_0 : Old Z n0 h0) (k : own_K Z a0 g) (E_0 : Ee0 Z h0 a1) (F0mag : Ff1 Z h0 a1 (.ref o1)) (F0signum : Ff0 Z h0 a1 (.int 1)) (A_1 : own_Ar Z h0 o1 .int [(.int x0), (.int x1)]) :
 mM52 l ws (oR 0 0 0 0) #[(.ref a1), (.int 0)] Z h0 fun v h L => v = some (.int x1) ∧ Fr n0 L ∧ h = h0 := by
 refine o_body own_pn52 k.1 (ef33 _ _) ?_
 intro p e s m b _ c T0 X0 j e0
 have N0 := Fr.nil n0
 have Z0 := own_Z0 O_0
 refine o_iloadN X0 j (dc52 0 rfl) rfl ?_
 refine o_ifYesD X0 j (dc52 1 rfl) 6 ?_
 refine o_iloadN X0 j (dc52 2 rfl) rfl ?_
 refine o_aloadN X0 j (dc52 3 rfl) rfl rfl ?_
 refine o_getF X0 j (dc52 4 rfl) 150 rfl e0 F0mag fun T680 X680 e680 => ?_
 refine o_len X680 j (dc52 5 rfl) e680 A_1 2 ?_
 refine o_icmpYesD X680 j (dc52 6 rfl) 20 ?_
 refine o_aloadN X680 j (dc52 10 rfl) rfl rfl ?_
 refine o_getF X680 j (dc52 11 rfl) 150 rfl e680 F0mag fun T681 X681 e681 => ?_
 refine o_aloadN X681 j (dc52 12 rfl) rfl rfl ?_
 refine o_getF X681 j (dc52 13 rfl) 150 rfl e681 F0mag fun T682 X682 e682 => ?_
 refine o_len X682 j (dc52 14 rfl) e682 A_1 2 ?_
 refine o_iloadN X682 j (dc52 15 rfl) rfl ?_
 refine o_isubL X682 j (dc52 16 rfl) 2 ?_
 refine o_iconstL X682 j (dc52 17 rfl) 1 ?_
 refine o_isubL X682 j (dc52 18 rfl) 1 ?_
 refine o_iaload X682 j (dc52 19 rfl) e682 A_1 (.int x1) ?_
 refine o_istoreN X682 j (dc52 20 rfl) (Ls' := #[sR a1, sI 0, sI x1]) rfl ?_
 refine o_aloadN X682 j (dc52 21 rfl) rfl rfl ?_
 refine o_getF X682 j (dc52 22 rfl) 147 rfl e682 F0signum fun T683 X683 e683 => ?_
 refine o_ifNoD X683 j (dc52 23 rfl) ?_
 refine o_iloadN X683 j (dc52 24 rfl) rfl ?_
 refine o_goto X683 j (dc52 25 rfl) 62 ?_
 exact o_retI X683 j (dc52 26 rfl) rfl ⟨rfl, N0, e683⟩
def D111_0 (x0 : Int32) : Int64 := ((0 : Int64) + ((x0.toInt64) &&& (4294967295 : Int64)))
def D111_1 (x0 : Int32) (x1 : Int32) : Int64 := (((D111_0 x0) <<< ((32 : Int32) &&& 0x3f).toInt64) + ((x1.toInt64) &&& (4294967295 : Int64)))
theorem ct111 (a1 o1 : Addr) (x0 x1 : Int32) (O_0 : Old Z n0 h0) (k : own_K Z a0 g) (E_0 : Ee0 Z h0 a1) (F0mag : Ff1 Z h0 a1 (.ref o1)) (F0signum : Ff0 Z h0 a1 (.int 1)) (A_1 : own_Ar Z h0 o1 .int [(.int x0), (.int x1)]) :
 mM51 l ws (oR 1 0 0 16) #[(.ref a1)] Z h0 fun v h L => v = some (.long (D111_1 x0 x1)) ∧ Fr n0 L ∧ h = h0 := by
 refine o_body own_pn51 k.1 (ef21 _) ?_
 intro p e s m b _ c T0 X0 j e0
 have N0 := Fr.nil n0
 have Z0 := own_Z0 O_0
 refine o_lconstL X0 j (dc51 0 rfl) 0 ?_
 refine o_lstoreN X0 j (dc51 1 rfl) (Ls' := #[sR a1, sJ 0, s2, sU]) rfl ?_
 refine o_iconstL X0 j (dc51 2 rfl) 1 ?_
 refine o_istoreN X0 j (dc51 3 rfl) (Ls' := #[sR a1, sJ 0, s2, sI 1]) rfl ?_
 refine o_iloadN X0 j (dc51 4 rfl) rfl ?_
 refine o_ifNoD X0 j (dc51 5 rfl) ?_
 refine o_lloadN X0 j (dc51 6 rfl) rfl ?_
 refine o_bipushL X0 j (dc51 7 rfl) 32 ?_
 refine o_lshlL X0 j (dc51 8 rfl) 0 ?_
 refine o_aloadN X0 j (dc51 9 rfl) rfl rfl ?_
 refine o_iloadN X0 j (dc51 10 rfl) rfl ?_
 refine o_callPv X0 j (ct109 a1 o1 x0 x1 O_0 k E_0 (F0mag) (F0signum) A_1) rfl rfl (pL18 rfl) (dc51 11 rfl) 271 273 274 272 275 136 ⟨rfl, rfl, rfl, rfl, rfl, rfl⟩ E_0 2 e0 ?_
 rintro _ T684 L684 X684 ⟨rfl, M684, e684⟩
 have N684 := Fr.app N0 M684
 show oG p e b T684 m 17 #[sR a1, sJ 0, s2, sI 1] [(.int x0), (.long 0)] _
 refine o_i2l X684 j (dc51 12 rfl) ?_
 refine o_ldc2 X684 j (dc51 13 rfl) 281 rfl ?_
 refine o_land X684 j (dc51 14 rfl) ?_
 refine o_ladd X684 j (dc51 15 rfl) ?_
 refine o_lstoreN X684 j (dc51 16 rfl) (Ls' := #[sR a1, sJ (D111_0 x0), s2, sI 1]) rfl ?_
 refine o_iinc X684 j (dc51 17 rfl) rfl (z := 0) (by decide) (Ls' := #[sR a1, sJ (D111_0 x0), s2, sI 0]) rfl ?_
 refine o_goto X684 j (dc51 18 rfl) 4 ?_
 refine o_iloadN X684 j (dc51 4 rfl) rfl ?_
 refine o_ifNoD X684 j (dc51 5 rfl) ?_
 refine o_lloadN X684 j (dc51 6 rfl) rfl ?_
 refine o_bipushL X684 j (dc51 7 rfl) 32 ?_
 refine o_lshl X684 j (dc51 8 rfl) ?_
 refine o_aloadN X684 j (dc51 9 rfl) rfl rfl ?_
 refine o_iloadN X684 j (dc51 10 rfl) rfl ?_
 refine o_callPv X684 j (ct110 a1 o1 x0 x1 O_0 k E_0 (F0mag) (F0signum) A_1) rfl rfl (pL18 rfl) (dc51 11 rfl) 271 273 274 272 275 136 ⟨rfl, rfl, rfl, rfl, rfl, rfl⟩ E_0 2 e684 ?_
 rintro _ T685 L685 X685 ⟨rfl, M685, e685⟩
 have N685 := Fr.app N684 M685
 show oG p e b T685 m 17 #[sR a1, sJ (D111_0 x0), s2, sI 0] [(.int x1), (.long ((D111_0 x0) <<< ((32 : Int32) &&& 0x3f).toInt64))] _
 refine o_i2l X685 j (dc51 12 rfl) ?_
 refine o_ldc2 X685 j (dc51 13 rfl) 281 rfl ?_
 refine o_land X685 j (dc51 14 rfl) ?_
 refine o_ladd X685 j (dc51 15 rfl) ?_
 refine o_lstoreN X685 j (dc51 16 rfl) (Ls' := #[sR a1, sJ (D111_1 x0 x1), s2, sI 0]) rfl ?_
 refine o_iinc X685 j (dc51 17 rfl) rfl (z := -1) (by decide) (Ls' := #[sR a1, sJ (D111_1 x0 x1), s2, sI (-1)]) rfl ?_
 refine o_goto X685 j (dc51 18 rfl) 4 ?_
 refine o_iloadN X685 j (dc51 4 rfl) rfl ?_
 refine o_ifYesD X685 j (dc51 5 rfl) 30 ?_
 refine o_lloadN X685 j (dc51 19 rfl) rfl ?_
 exact o_retJ X685 j (dc51 20 rfl) rfl ⟨rfl, N685, e685⟩
def H112 (x0 : Int64) : Bool := (H88 x0) && ((H107 (D85_0 x0) (x0.toInt32)) && (decide (¬ (63 : Int32) < (D108_0 (R100_1 (D85_0 x0)))) && ((H95 (D111_1 (R100_1 (D85_0 x0)) (D100_3 (D85_0 x0) (x0.toInt32)))) && true)))
def R112_0 (x0 : Int64) : Int64 := ((D111_1 (R100_1 (D85_0 x0)) (D100_3 (D85_0 x0) (x0.toInt32))) + (0 : Int64))
theorem ct112 (a1 : Addr) (x0 : Int64) (O_0 : Old Z n0 h0) (k : own_K Z a0 g) (E_0 : Ee1 Z h0 a1) (F0intCompact : Ff2 Z h0 a1 (.long x0)) (F0intVal : Ff6 Z h0 a1 .null) (F0scale : Ff3 Z h0 a1 (.int 9)) (hH : H112 x0 = true) :
 mM23 l ws (oR 6 13 39 105) #[(.ref a1)] Z h0 fun v h L => ∃ (u0694 : Addr), v = some (.ref u0694) ∧ Fr n0 L ∧ Keep h0 h [] ∧ h0.size ≤ u0694 ∧ Ee2 Z h u0694 ∧ Ff5 Z h u0694 (.int 0) ∧ Ff4 Z h u0694 (.long (R112_0 x0)) := by
 refine o_body own_pn23 k.1 (ef20 _) ?_
 intro p e s m b _ c T0 X0 j e0
 have N0 := Fr.nil n0
 have Z0 := own_Z0 O_0
 obtain ⟨hh0, q0⟩ := own_and hH
 obtain ⟨hh1, q1⟩ := own_and q0
 obtain ⟨hh2, q2⟩ := o_ad q1
 obtain ⟨hh3, q3⟩ := own_and q2
 refine o_aloadN X0 j (dc23 0 rfl) rfl rfl ?_
 refine o_bipushL X0 j (dc23 1 rfl) 9 ?_
 refine o_callV X0 j (ct84 a1 x0 O_0 k E_0 (F0intCompact) (F0intVal) (F0scale)) rfl rfl (pL1 rfl) (dc23 2 rfl) 114 115 117 116 118 34 ⟨rfl, rfl, rfl, rfl, rfl, rfl⟩ E_0 0 e0 ?_
 rintro _ T686 L686 X686 ⟨u0686, rfl, M686, K686, P0686, P1686, P2686, P3686, P4686, P5686⟩
 have N686 := Fr.app N0 M686
 have l686_0 := (ntr Z0 P0686)
 show oG p e b T686 m 6 #[sR a1, sU, sU] [(.ref u0686)] _
 refine o_callV X686 j (ct88 u0686 x0 ((O_0.keep K686 all0)) k P1686 P2686 P3686 P5686 hh0) rfl rfl (pL17 rfl) (dc23 3 rfl) 119 120 122 121 123 34 ⟨rfl, rfl, rfl, rfl, rfl, rfl⟩ P1686 0 rfl ?_
 rintro _ T687 L687 X687 ⟨u0687, u1687, rfl, M687, K687, P0687, P1687, P2687, P3687, P4687, P5687, P6687, P7687⟩
 have N687 := Fr.app N686 M687
 have l687_0 := (ntr Z0 (ntr K686.1 P0687))
 have l687_1 := (ntr Z0 (ntr K686.1 P1687))
 show oG p e b T687 m 9 #[sR a1, sU, sU] [(.ref u0687)] _
 refine o_astoreN X687 j (dc23 4 rfl) rfl (Ls' := #[sR a1, sR u0687, sU]) rfl ?_
 refine o_aloadN X687 j (dc23 5 rfl) rfl rfl ?_
 refine o_getS X687 j (dc23 6 rfl) 152 rfl rfl ((k4 k).ext (((O_0.keep K686 all0).keep K687 all0)).2) fun T688 X688 e688 => ?_
 refine o_callV X688 j (ct107 u0687 (g 54) u1687 (g 55) (D85_0 x0) (x0.toInt32) (((O_0.keep K686 all0).keep K687 all0)) k P3687 P5687 P6687 (((k30 k).ext (((O_0.keep K686 all0).keep K687 all0)).2)) (((k32 k).ext (((O_0.keep K686 all0).keep K687 all0)).2)) (((k31 k).ext (((O_0.keep K686 all0).keep K687 all0)).2)) P7687 (((k33 k).ext (((O_0.keep K686 all0).keep K687 all0)).2)) hh1) rfl rfl (pL30 rfl) (dc23 7 rfl) 153 154 156 155 157 136 ⟨rfl, rfl, rfl, rfl, rfl, rfl⟩ P3687 0 e688 ?_
 rintro _ T689 L689 X689 ⟨u0689, u1689, u2689, rfl, M689, K689, P0689, P1689, P2689, P3689, P4689, P5689, P6689, P7689, P8689, P9689, P10689, P11689⟩
 have N689 := Fr.app N687 M689
 have l689_0 := (ntr Z0 (ntr (ntr K686.1 K687.1) P0689))
 have l689_1 := (ntr Z0 (ntr (ntr K686.1 K687.1) P1689))
 have l689_2 := (ntr Z0 (ntr (ntr K686.1 K687.1) P2689))
 show oG p e b T689 m 17 #[sR a1, sR u0687, sU] [(.ref u0689)] _
 refine o_astoreN X689 j (dc23 8 rfl) rfl (Ls' := #[sR a1, sR u0687, sR u0689]) rfl ?_
 refine o_aloadN X689 j (dc23 9 rfl) rfl rfl ?_
 refine o_iconstL X689 j (dc23 10 rfl) 0 ?_
 refine o_aaload X689 j (dc23 11 rfl) rfl (P6689.ar) (.ref u1689) ?_
 have y690 := (((O_0.keep K686 all0).keep K687 all0).keep K689 all0)
 refine o_callV X689 j (ct108 u1689 u2689 (R100_1 (D85_0 x0)) (D100_3 (D85_0 x0) (x0.toInt32)) y690 k P7689 P8689 P9689 P10689 l689_1 P11689) rfl rfl (pL31 rfl) (dc23 12 rfl) 255 256 258 257 259 136 ⟨rfl, rfl, rfl, rfl, rfl, rfl⟩ P7689 0 rfl ?_
 rintro _ T691 L691 X691 ⟨rfl, M691, K691, P0691, P1691, P2691⟩
 have N691 := Fr.app N689 M691
 show oG p e b T691 m 24 #[sR a1, sR u0687, sR u0689] [(.int (D108_0 (R100_1 (D85_0 x0))))] _
 refine o_bipushL X691 j (dc23 13 rfl) 63 ?_
 refine o_icmpYes X691 j (dc23 14 rfl) 57 (flt hh2).2.2.2 ?_
 refine o_aloadN X691 j (dc23 15 rfl) rfl rfl ?_
 refine o_iconstL X691 j (dc23 16 rfl) 0 ?_
 refine o_aaload X691 j (dc23 17 rfl) rfl (((P6689.keep K691 (ninS (Ne.symm P3689) nin0))).ar) (.ref u1689) ?_
 refine o_callV X691 j (ct111 u1689 u2689 (R100_1 (D85_0 x0)) (D100_3 (D85_0 x0) (x0.toInt32)) ((y690.keep K691 (allS l689_1 all0))) k ((P7689.keep K691)) P1691 P2691 ((P11689.keep K691 (ninS P5689 nin0)))) rfl rfl (pL34 rfl) (dc23 18 rfl) 266 267 269 268 270 136 ⟨rfl, rfl, rfl, rfl, rfl, rfl⟩ (P7689.keep K691) 0 rfl ?_
 rintro _ T692 L692 X692 ⟨rfl, M692, e692⟩
 have N692 := Fr.app N691 M692
 show oG p e b T692 m 63 #[sR a1, sR u0687, sR u0689] [(.long (D111_1 (R100_1 (D85_0 x0)) (D100_3 (D85_0 x0) (x0.toInt32))))] _
 refine o_aloadN X692 j (dc23 19 rfl) rfl rfl ?_
 refine o_iconstL X692 j (dc23 20 rfl) 1 ?_
 refine o_aaload X692 j (dc23 21 rfl) e692 (((P6689.keep K691 (ninS (Ne.symm P3689) nin0))).ar) (.ref (g 0)) ?_
 refine o_callV X692 j (ct60 (g 0) (g 1) ((y690.keep K691 (allS l689_1 all0))) k (((k7 k).ext ((y690.keep K691 (allS l689_1 all0))).2)) (((k9 k).ext ((y690.keep K691 (allS l689_1 all0))).2)) (((k8 k).ext ((y690.keep K691 (allS l689_1 all0))).2)) (((k10 k).ext ((y690.keep K691 (allS l689_1 all0))).2))) rfl rfl (pL31 rfl) (dc23 22 rfl) 282 283 285 284 286 136 ⟨rfl, rfl, rfl, rfl, rfl, rfl⟩ ((k7 k).ext ((y690.keep K691 (allS l689_1 all0))).2) 2 e692 ?_
 rintro _ T693 L693 X693 ⟨rfl, M693, e693⟩
 have N693 := Fr.app N692 M693
 show oG p e b T693 m 69 #[sR a1, sR u0687, sR u0689] [(.int 0), (.long (D111_1 (R100_1 (D85_0 x0)) (D100_3 (D85_0 x0) (x0.toInt32))))] _
 refine o_i2lL X693 j (dc23 23 rfl) 0 ?_
 refine o_callS X693 j (ct95 (D111_1 (R100_1 (D85_0 x0)) (D100_3 (D85_0 x0) (x0.toInt32))) ((y690.keep K691 (allS l689_1 all0))) k hh3) rfl rfl (pL35 rfl) (dc23 24 rfl) 287 288 11 289 ⟨rfl, rfl, rfl, rfl⟩ 0 e693 ?_
 rintro _ T694 L694 X694 ⟨u0694, rfl, M694, K694, P0694, P1694, P2694, P3694⟩
 have N694 := Fr.app N693 M694
 have l694_0 := (ntr Z0 (ntr (ntr (ntr (ntr K686.1 K687.1) K689.1) K691.1) P0694))
 show oG p e b T694 m 73 #[sR a1, sR u0687, sR u0689] [(.ref u0694)] _
 exact o_retA X694 j (dc23 25 rfl) rfl ⟨u0694, rfl, N694, ((((((Keep.refl h0 []).trans K686 all0).trans K687 all0).trans K689 all0).trans K691 (allS (Or.inr (ntr (ntr K686.1 K687.1) P1689)) all0)).trans K694 all0), (ntr (ntr (ntr (ntr K686.1 K687.1) K689.1) K691.1) P0694), P1694, P2694, P3694⟩
def H113 (x0 : Int64) : Bool := decide (¬ x0 = (0 : Int64)) && (decide (¬ x0 = (1 : Int64)) && ((H78 x0) && ((H83 x0) && ((H112 ((4000000000 : Int64) * x0)) && true))))
def R113_0 (x0 : Int64) : Int64 := (R112_0 ((4000000000 : Int64) * x0))
theorem ct113 (a1 : Addr) (x0 : Int64) (O_0 : Old Z n0 h0) (k : own_K Z a0 g) (E_0 : Ee2 Z h0 a1) (F0nanos : Ff5 Z h0 a1 (.int 0)) (F0seconds : Ff4 Z h0 a1 (.long 4)) (hH : H113 x0 = true) :
 mM2 l ws (oR 8 16 54 122) #[(.ref a1), (.long x0)] Z h0 fun v h L => ∃ (u0699 : Addr), v = some (.ref u0699) ∧ Fr n0 L ∧ Keep h0 h [] ∧ h0.size ≤ u0699 ∧ Ee2 Z h u0699 ∧ Ff5 Z h u0699 (.int 0) ∧ Ff4 Z h u0699 (.long (R113_0 x0)) := by
 refine o_body own_pn2 k.1 (ef1 _ _) ?_
 intro p e s m b _ c T0 X0 j e0
 have N0 := Fr.nil n0
 have Z0 := own_Z0 O_0
 obtain ⟨hh0, q0⟩ := o_ad hH
 obtain ⟨hh1, q1⟩ := o_ad q0
 obtain ⟨hh2, q2⟩ := own_and q1
 obtain ⟨hh3, q3⟩ := own_and q2
 obtain ⟨hh4, q4⟩ := own_and q3
 refine o_lloadN X0 j (dc2 0 rfl) rfl ?_
 refine o_lconstL X0 j (dc2 1 rfl) 0 ?_
 refine o_lcmp X0 j (dc2 2 rfl) ?_
 refine o_ifYes X0 j (dc2 3 rfl) 10 (feq (fun q => hh0 ((lw_eq x0 (0 : Int64)).mp q))).2 ?_
 refine o_lloadN X0 j (dc2 4 rfl) rfl ?_
 refine o_lconstL X0 j (dc2 5 rfl) 1 ?_
 refine o_lcmp X0 j (dc2 6 rfl) ?_
 refine o_ifYes X0 j (dc2 7 rfl) 18 (feq (fun q => hh1 ((lw_eq x0 (1 : Int64)).mp q))).2 ?_
 refine o_aloadN X0 j (dc2 10 rfl) rfl rfl ?_
 refine o_callPv X0 j (ct16 a1 O_0 k E_0 (F0nanos) (F0seconds)) rfl rfl (pL36 rfl) (dc2 11 rfl) 27 29 30 28 31 11 ⟨rfl, rfl, rfl, rfl, rfl, rfl⟩ E_0 0 e0 ?_
 rintro _ T695 L695 X695 ⟨u0695, rfl, M695, K695, P0695, P1695, P2695, P3695, P4695, P5695⟩
 have N695 := Fr.app N0 M695
 have l695_0 := (ntr Z0 P0695)
 show oG p e b T695 m 22 #[sR a1, sJ x0, s2] [(.ref u0695)] _
 refine o_lloadN X695 j (dc2 12 rfl) rfl ?_
 refine o_callS X695 j (ct78 x0 ((O_0.keep K695 all0)) k hh2) rfl rfl (pL11 rfl) (dc2 13 rfl) 32 33 34 35 ⟨rfl, rfl, rfl, rfl⟩ 1 rfl ?_
 rintro _ T696 L696 X696 ⟨u0696, rfl, M696, K696, P0696, P1696, P2696, P3696, P4696, P5696⟩
 have N696 := Fr.app N695 M696
 have l696_0 := (ntr Z0 (ntr K695.1 P0696))
 show oG p e b T696 m 26 #[sR a1, sJ x0, s2] [(.ref u0696), (.ref u0695)] _
 refine o_callV X696 j (ct83 u0695 u0696 x0 (((O_0.keep K695 all0).keep K696 all0)) k ((P1695.keep K696)) ((P2695.keep K696 nin0)) ((P5695.keep K696 nin0)) P1696 P2696 P5696 hh3) rfl rfl (pL12 rfl) (dc2 14 rfl) 95 96 98 97 99 34 ⟨rfl, rfl, rfl, rfl, rfl, rfl⟩ (P1695.keep K696) 0 rfl ?_
 rintro _ T697 L697 X697 ⟨u0697, rfl, M697, K697, P0697, P1697, P2697, P3697, P4697, P5697⟩
 have N697 := Fr.app N696 M697
 have l697_0 := (ntr Z0 (ntr (ntr K695.1 K696.1) P0697))
 show oG p e b T697 m 29 #[sR a1, sJ x0, s2] [(.ref u0697)] _
 have y698 := (((O_0.keep K695 all0).keep K696 all0).keep K697 all0)
 refine o_callS X697 j (ct112 u0697 ((4000000000 : Int64) * x0) y698 k P1697 P2697 P3697 P5697 hh4) rfl rfl (pL37 rfl) (dc2 15 rfl) 111 112 11 113 ⟨rfl, rfl, rfl, rfl⟩ 0 rfl ?_
 rintro _ T699 L699 X699 ⟨u0699, rfl, M699, K699, P0699, P1699, P2699, P3699⟩
 have N699 := Fr.app N697 M699
 have l699_0 := (ntr Z0 (ntr (ntr (ntr K695.1 K696.1) K697.1) P0699))
 show oG p e b T699 m 32 #[sR a1, sJ x0, s2] [(.ref u0699)] _
 exact o_retA X699 j (dc2 16 rfl) rfl ⟨u0699, rfl, N699, (((((Keep.refl h0 []).trans K695 all0).trans K696 all0).trans K697 all0).trans K699 all0), (ntr (ntr (ntr K695.1 K696.1) K697.1) P0699), P1699, P2699, P3699⟩
def H114 (x0 : Int32) : Bool := decide (¬ x0 < (1 : Int32)) && (decide (¬ (61 : Int32) < x0) && ((H113 ((1 : Int64) <<< ((x0 - (1 : Int32)) &&& 0x3f).toInt64)) && true))
def R114_0 (x0 : Int32) : Int64 := (R113_0 ((1 : Int64) <<< ((x0 - (1 : Int32)) &&& 0x3f).toInt64))
theorem ct114 (x0 : Int32) (O_0 : Old Z n0 h0) (k : own_K Z a0 g) (hH : H114 x0 = true) :
 mM1 l ws (oR 9 16 54 136) #[(.int x0)] Z h0 fun v h L => ∃ (u0701 : Addr), v = some (.ref u0701) ∧ Fr n0 L ∧ Keep h0 h [] ∧ h0.size ≤ u0701 ∧ Ee2 Z h u0701 ∧ Ff5 Z h u0701 (.int 0) ∧ Ff4 Z h u0701 (.long (R114_0 x0)) := by
 refine o_body own_pn1 k.1 (ef2 _) ?_
 intro p e s m b _ c T0 X0 j e0
 have N0 := Fr.nil n0
 have Z0 := own_Z0 O_0
 obtain ⟨hh0, q0⟩ := o_ad hH
 obtain ⟨hh1, q1⟩ := o_ad q0
 obtain ⟨hh2, q2⟩ := own_and q1
 refine o_iloadN X0 j (dc1 0 rfl) rfl ?_
 refine o_iconstL X0 j (dc1 1 rfl) 1 ?_
 refine o_icmpNo X0 j (dc1 2 rfl) (flt hh0).1 ?_
 refine o_iloadN X0 j (dc1 3 rfl) rfl ?_
 refine o_bipushL X0 j (dc1 4 rfl) 61 ?_
 refine o_icmpYes X0 j (dc1 5 rfl) 25 (flt hh1).2.2.2 ?_
 refine o_getS X0 j (dc1 6 rfl) 5 rfl e0 ((k6 k).ext O_0.2) fun T700 X700 e700 => ?_
 refine o_lconstL X700 j (dc1 7 rfl) 1 ?_
 refine o_iloadN X700 j (dc1 8 rfl) rfl ?_
 refine o_iconstL X700 j (dc1 9 rfl) 1 ?_
 refine o_isub X700 j (dc1 10 rfl) ?_
 refine o_lshl X700 j (dc1 11 rfl) ?_
 refine o_callV X700 j (ct113 (g 51) ((1 : Int64) <<< ((x0 - (1 : Int32)) &&& 0x3f).toInt64) O_0 k (((k25 k).ext O_0.2)) (((k27 k).ext O_0.2)) (((k26 k).ext O_0.2)) hh2) rfl rfl (pL0 rfl) (dc1 12 rfl) 7 8 10 9 12 11 ⟨rfl, rfl, rfl, rfl, rfl, rfl⟩ ((k25 k).ext O_0.2) 0 e700 ?_
 rintro _ T701 L701 X701 ⟨u0701, rfl, M701, K701, P0701, P1701, P2701, P3701⟩
 have N701 := Fr.app N0 M701
 have l701_0 := (ntr Z0 P0701)
 show oG p e b T701 m 36 #[sI x0] [(.ref u0701)] _
 exact o_retA X701 j (dc1 13 rfl) rfl ⟨u0701, rfl, N701, ((Keep.refl h0 []).trans K701 all0), P0701, P1701, P2701, P3701⟩
def H115 (x0 : Int64) : Bool := (H79 x0) && (decide (¬ ((((4000000000 : Int64) ||| x0).toUInt64 >>> ((31 : Int32) &&& 0x3f).toInt64.toUInt64).toInt64) = (0 : Int64)) && (decide (¬ x0 = (0 : Int64)) && (decide (x0 ≠ 0) && (decide (¬ (((4000000000 : Int64) * x0) / x0) = (4000000000 : Int64)) && true))))
theorem ct115 (x0 : Int64) (O_0 : Old Z n0 h0) (k : own_K Z a0 g) (hH : H115 x0 = true) :
 mM22 l ws (oR 1 0 0 13) #[(.long 4000000000), (.long x0)] Z h0 fun v h L => v = some (.long (-9223372036854775808)) ∧ Fr n0 L ∧ h = h0 := by
 refine o_body own_pn22 k.1 (ef14 _ _) ?_
 intro p e s m b _ c T0 X0 j e0
 have N0 := Fr.nil n0
 have Z0 := own_Z0 O_0
 obtain ⟨hh0, q0⟩ := own_and hH
 obtain ⟨hh1, q1⟩ := o_ad q0
 obtain ⟨hh2, q2⟩ := o_ad q1
 obtain ⟨hh3, q3⟩ := o_ad q2
 obtain ⟨hh4, q4⟩ := o_ad q3
 refine o_lloadN X0 j (dc22 0 rfl) rfl ?_
 refine o_lloadN X0 j (dc22 1 rfl) rfl ?_
 refine o_lmul X0 j (dc22 2 rfl) ?_
 refine o_lstore X0 j (dc22 3 rfl) (Ls' := #[sJ 4000000000, s2, sJ x0, s2, sJ ((4000000000 : Int64) * x0), s2, sU, sU, sU, sU]) rfl ?_
 refine o_lloadN X0 j (dc22 4 rfl) rfl ?_
 refine o_callS X0 j (ct6 (4000000000 : Int64) O_0 k (by decide)) rfl rfl (pL2 rfl) (dc22 5 rfl) 65 66 67 68 ⟨rfl, rfl, rfl, rfl⟩ 0 e0 ?_
 rintro _ T702 L702 X702 ⟨rfl, M702, e702⟩
 have N702 := Fr.app N0 M702
 show oG p e b T702 m 9 #[sJ 4000000000, s2, sJ x0, s2, sJ ((4000000000 : Int64) * x0), s2, sU, sU, sU, sU] [(.long 4000000000)] _
 refine o_lstore X702 j (dc22 6 rfl) (Ls' := #[sJ 4000000000, s2, sJ x0, s2, sJ ((4000000000 : Int64) * x0), s2, sJ 4000000000, s2, sU, sU]) rfl ?_
 refine o_lloadN X702 j (dc22 7 rfl) rfl ?_
 refine o_callS X702 j (ct79 x0 O_0 k hh0) rfl rfl (pL2 rfl) (dc22 8 rfl) 65 66 67 68 ⟨rfl, rfl, rfl, rfl⟩ 0 e702 ?_
 rintro _ T703 L703 X703 ⟨rfl, M703, e703⟩
 have N703 := Fr.app N702 M703
 show oG p e b T703 m 15 #[sJ 4000000000, s2, sJ x0, s2, sJ ((4000000000 : Int64) * x0), s2, sJ 4000000000, s2, sU, sU] [(.long x0)] _
 refine o_lstore X703 j (dc22 9 rfl) (Ls' := #[sJ 4000000000, s2, sJ x0, s2, sJ ((4000000000 : Int64) * x0), s2, sJ 4000000000, s2, sJ x0, s2]) rfl ?_
 refine o_lload X703 j (dc22 10 rfl) rfl ?_
 refine o_lload X703 j (dc22 11 rfl) rfl ?_
 refine o_lor X703 j (dc22 12 rfl) ?_
 refine o_bipushL X703 j (dc22 13 rfl) 31 ?_
 refine o_lushr X703 j (dc22 14 rfl) ?_
 refine o_lconstL X703 j (dc22 15 rfl) 0 ?_
 refine o_lcmp X703 j (dc22 16 rfl) ?_
 refine o_ifNo X703 j (dc22 17 rfl) (feq (fun q => hh1 ((lw_eq ((((4000000000 : Int64) ||| x0).toUInt64 >>> ((31 : Int32) &&& 0x3f).toInt64.toUInt64).toInt64) (0 : Int64)).mp q))).1 ?_
 refine o_lloadN X703 j (dc22 18 rfl) rfl ?_
 refine o_lconstL X703 j (dc22 19 rfl) 0 ?_
 refine o_lcmp X703 j (dc22 20 rfl) ?_
 refine o_ifNo X703 j (dc22 21 rfl) (feq (fun q => hh2 ((lw_eq x0 (0 : Int64)).mp q))).1 ?_
 refine o_lload X703 j (dc22 22 rfl) rfl ?_
 refine o_lloadN X703 j (dc22 23 rfl) rfl ?_
 refine o_ldiv X703 j (dc22 24 rfl) hh3 ?_
 refine o_lloadN X703 j (dc22 25 rfl) rfl ?_
 refine o_lcmp X703 j (dc22 26 rfl) ?_
 refine o_ifYes X703 j (dc22 27 rfl) 48 (feq (fun q => hh4 ((lw_eq (((4000000000 : Int64) * x0) / x0) (4000000000 : Int64)).mp q))).2 ?_
 refine o_ldc2 X703 j (dc22 30 rfl) 51 rfl ?_
 exact o_retJ X703 j (dc22 31 rfl) rfl ⟨rfl, N703, e703⟩
def H116  : Bool := decide (¬ (4000000000 : Int64) < (0 : Int64)) && true
theorem ct116 (a1 : Addr) (O_0 : Old Z n0 h0) (k : own_K Z a0 g) (E_0 : Ee0 Z h0 a1) (F0bitLengthPlusOne : Ff8 Z h0 a1 (.int 0)) (F0mag : Ff1 Z h0 a1 .null) (F0signum : Ff0 Z h0 a1 (.int 0)) (G_0 : n0 ≤ a1) (hH : H116  = true) :
 mM29 l ws (oR 2 1 1 24) #[(.ref a1), (.long 4000000000)] Z h0 fun v h L => ∃ (b706 : Addr), v = none ∧ Fr n0 L ∧ Keep h0 h [a1] ∧ h0.size ≤ b706 ∧ own_Ar Z h b706 .int [(.int (-294967296))] ∧ Ff8 Z h a1 (.int 0) ∧ Ff1 Z h a1 (.ref b706) ∧ Ff0 Z h a1 (.int 1) := by
 refine o_body own_pn29 k.1 (ef18 _ _) ?_
 intro p e s m b _ c T0 X0 j e0
 have N0 := Fr.nil n0
 have Z0 := own_Z0 O_0
 obtain ⟨hh0, q0⟩ := o_ad hH
 refine o_aloadN X0 j (dc29 0 rfl) rfl rfl ?_
 refine o_callSp X0 j (ct25 a1 O_0 k E_0) rfl rfl (pL3 rfl) (dc29 1 rfl) 145 83 87 86 ⟨rfl, rfl, rfl, rfl⟩ 0 e0 ?_
 rintro _ T704 L704 X704 ⟨rfl, M704, e704⟩
 have N704 := Fr.app N0 M704
 show oG p e b T704 m 4 #[sR a1, sJ 4000000000, s2, sU] [] _
 refine o_lloadN X704 j (dc29 2 rfl) rfl ?_
 refine o_lconstL X704 j (dc29 3 rfl) 0 ?_
 refine o_lcmp X704 j (dc29 4 rfl) ?_
 refine o_ifYes X704 j (dc29 5 rfl) 21 (flt (fun q => hh0 ((lw_lt (4000000000 : Int64) (0 : Int64)).mp q))).2.1 ?_
 refine o_aloadN X704 j (dc29 6 rfl) rfl rfl ?_
 refine o_iconstL X704 j (dc29 7 rfl) 1 ?_
 refine o_putf X704 j (dc29 8 rfl) 147 148 140 ⟨rfl, rfl, rfl⟩ .int e704 F0signum E_0 fun T705 h705 X705 e705 W705 => ?_
 have F705 := (F0signum).same W705
 have N705 := Fr.snoc X705 N704 G_0
 refine o_lloadN X705 j (dc29 9 rfl) rfl ?_
 refine o_bipushL X705 j (dc29 10 rfl) 32 ?_
 refine o_lushrL X705 j (dc29 11 rfl) 0 ?_
 refine o_l2iL X705 j (dc29 12 rfl) 0 ?_
 refine o_istoreN X705 j (dc29 13 rfl) (Ls' := #[sR a1, sJ 4000000000, s2, sI 0]) rfl ?_
 refine o_iloadN X705 j (dc29 14 rfl) rfl ?_
 refine o_ifNoD X705 j (dc29 15 rfl) ?_
 refine o_aloadN X705 j (dc29 16 rfl) rfl rfl ?_
 refine o_iconstL X705 j (dc29 17 rfl) 1 ?_
 refine o_newA X705 j (dc29 18 rfl) 149 rfl e705 1 [(.int 0)] fun T706 h706 b706 X706 e706 g706 E706 A706 => ?_
 have z706 := ntr (nqs (Wr.size W705)) (nqs g706)
 have l706 := (ntr Z0 z706)
 have y708 := ((F0mag.other W705 (Or.inr (sn12 k))).ext E706)
 refine o_putf X706 j (dc29 19 rfl) 150 151 140 ⟨rfl, rfl, rfl⟩ (.array .int) e706 y708 ((E_0.wr W705).ext E706) fun T707 h707 X707 e707 W707 => ?_
 have F707 := y708.same W707
 have N707 := Fr.snoc X707 N705 G_0
 refine o_aloadN X707 j (dc29 20 rfl) rfl rfl ?_
 refine o_getF X707 j (dc29 21 rfl) 150 rfl e707 F707 fun T709 X709 e709 => ?_
 refine o_iconstL X709 j (dc29 22 rfl) 0 ?_
 refine o_lloadN X709 j (dc29 23 rfl) rfl ?_
 refine o_l2iL X709 j (dc29 24 rfl) (-294967296) ?_
 have d711 := (nne (nlt (nlt E_0.lt (nqs (Wr.size W705))) (nqs g706)))
 have d712 := (Ne.symm d711)
 refine o_iastore X709 j (dc29 25 rfl) e709 ((A706.other W707 d712)) (.int 0) fun T710 h710 X710 e710 W710 A710 => ?_
 have B710 : own_Ar Z h710 b706 .int [(.int (-294967296))] := A710
 have N710 := Fr.snoc X710 N707 l706
 refine o_goto X710 j (dc29 26 rfl) 76 ?_
 have y713 := ((((F0bitLengthPlusOne.other W705 (Or.inr (sn13 k))).ext E706).other W707 (Or.inr (sn14 k))).other W710 (Or.inl d711))
 have y714 := (((F705.ext E706).other W707 (Or.inr (sn15 k))).other W710 (Or.inl d711))
 exact o_retV X710 j (dc29 42 rfl) e710 ⟨b706, rfl, N710, (((((Keep.refl h0 [a1]).wr W705 (mI 0 rfl)).ext E706).wr W707 (mI 0 rfl)).wr W710 (Or.inr z706)), z706, B710, y713, (F707.other W710 (Or.inl d711)), y714⟩
def H117  : Bool := decide (¬ (4000000000 : Int64) = (0 : Int64)) && (decide ((0 : Int64) < (4000000000 : Int64)) && (decide ((16 : Int64) < (4000000000 : Int64)) && (decide (¬ (4000000000 : Int64) < (0 : Int64)) && true)))
theorem ct117 (O_0 : Old Z n0 h0) (k : own_K Z a0 g) (hH : H117  = true) :
 mM28 l ws (oR 3 2 7 40) #[(.long 4000000000)] Z h0 fun v h L => ∃ (b715 : Addr) (u0716 : Addr), v = some (.ref b715) ∧ Fr n0 L ∧ Keep h0 h [] ∧ h0.size ≤ b715 ∧ h0.size ≤ u0716 ∧ u0716 ≠ b715 ∧ Ee0 Z h b715 ∧ Ff8 Z h b715 (.int 0) ∧ Ff1 Z h b715 (.ref u0716) ∧ Ff0 Z h b715 (.int 1) ∧ own_Ar Z h u0716 .int [(.int (-294967296))] := by
 refine o_body own_pn28 k.1 (ef3 _) ?_
 intro p e s m b _ c T0 X0 j e0
 have N0 := Fr.nil n0
 have Z0 := own_Z0 O_0
 obtain ⟨hh0, q0⟩ := o_ad hH
 obtain ⟨hh1, q1⟩ := o_ad q0
 obtain ⟨hh2, q2⟩ := o_ad q1
 obtain ⟨hh3, q3⟩ := o_ad q2
 refine o_lloadN X0 j (dc28 0 rfl) rfl ?_
 refine o_lconstL X0 j (dc28 1 rfl) 0 ?_
 refine o_lcmp X0 j (dc28 2 rfl) ?_
 refine o_ifYes X0 j (dc28 3 rfl) 10 (feq (fun q => hh0 ((lw_eq (4000000000 : Int64) (0 : Int64)).mp q))).2 ?_
 refine o_lloadN X0 j (dc28 4 rfl) rfl ?_
 refine o_lconstL X0 j (dc28 5 rfl) 0 ?_
 refine o_lcmp X0 j (dc28 6 rfl) ?_
 refine o_ifNo X0 j (dc28 7 rfl) (tlt ((lw_gt (4000000000 : Int64) (0 : Int64)).mpr hh1)).2.2.2 ?_
 refine o_lloadN X0 j (dc28 8 rfl) rfl ?_
 refine o_ldc2 X0 j (dc28 9 rfl) 138 rfl ?_
 refine o_lcmp X0 j (dc28 10 rfl) ?_
 refine o_ifYes X0 j (dc28 11 rfl) 31 (tlt ((lw_gt (4000000000 : Int64) (16 : Int64)).mpr hh2)).2.2.1 ?_
 refine o_lloadN X0 j (dc28 12 rfl) rfl ?_
 refine o_lconstL X0 j (dc28 13 rfl) 0 ?_
 refine o_lcmp X0 j (dc28 14 rfl) ?_
 refine o_ifYes X0 j (dc28 15 rfl) 53 (flt (fun q => hh3 ((lw_lt (4000000000 : Int64) (0 : Int64)).mp q))).2.1 ?_
 refine o_new X0 j (dc28 16 rfl) 139 140 136 ⟨rfl, rfl, rfl⟩ e0 fun T715 h715 b715 X715 e715 g715 E715 A715 D715 => ?_
 have F715_signum : Ff0 Z h715 b715 (.int 0) := D715 (Or.inr (ot k 148 rfl)) (ty := .int) (by decide)
 have F715_mag : Ff1 Z h715 b715 .null := D715 (Or.inr (ot k 151 rfl)) (ty := (.array .int)) (by decide)
 have F715_bitLengthPlusOne : Ff8 Z h715 b715 (.int 0) := D715 (Or.inl (ot k 261 rfl)) (ty := .int) (by decide)
 have z715 := ntr (Nat.le_refl _) (nqs g715)
 have l715 := (ntr Z0 z715)
 refine o_dup X715 j (dc28 17 rfl) rfl ?_
 refine o_lloadN X715 j (dc28 18 rfl) rfl ?_
 refine o_callSp X715 j (ct116 b715 ((O_0.ext E715)) k A715 (F715_bitLengthPlusOne) (F715_mag) (F715_signum) l715 (by decide)) rfl rfl (pL14 rfl) (dc28 19 rfl) 141 142 144 136 ⟨rfl, rfl, rfl, rfl⟩ 1 e715 ?_
 rintro _ T716 L716 X716 ⟨u0716, rfl, M716, K716, P0716, P1716, P2716, P3716, P4716⟩
 have N716 := Fr.app N0 M716
 have l716_0 := (ntr Z0 (ntr E715.1 P0716))
 show oG p e b T716 m 61 #[sJ 4000000000, s2] [(.ref b715)] _
 have d717 := (nne (nlt A715.lt P0716))
 have d718 := (Ne.symm d717)
 exact o_retA X716 j (dc28 20 rfl) rfl ⟨b715, u0716, rfl, N716, (((Keep.refl h0 []).ext E715).trans K716 (allS (Or.inr z715) all0)), z715, (ntr E715.1 P0716), d718, (A715.keep K716), P2716, P3716, P4716, P1716⟩
theorem ct118 (a1 : Addr) (x0 x1 x2 : Int32) (O_0 : Old Z n0 h0) (k : own_K Z a0 g) (A_0 : own_Ar Z h0 a1 .int [(.int x0), (.int x1), (.int x2)]) :
 mM44 l ws (oR 1 1 2 24) #[(.ref a1), (.int 1), (.int 3)] Z h0 fun v h L => ∃ (b720 : Addr), v = some (.ref b720) ∧ Fr n0 L ∧ Keep h0 h [] ∧ h0.size ≤ b720 ∧ own_Ar Z h b720 .int [(.int x1), (.int x2)] := by
 refine o_body own_pn44 k.1 (ef26 _ _ _) ?_
 intro p e s m b _ c T0 X0 j e0
 obtain ⟨hx, hby, hml, hown, hnm, hret, hlk, hZ, hw⟩ := id j
 have N0 := Fr.nil n0
 have Z0 := own_Z0 O_0
 refine o_iloadN X0 j (dc44 0 rfl) rfl ?_
 refine o_iloadN X0 j (dc44 1 rfl) rfl ?_
 refine o_callS X0 j (ct41 (3 : Int32) O_0 k (by decide)) rfl rfl (pL22 rfl) (dc44 2 rfl) 237 238 232 239 ⟨rfl, rfl, rfl, rfl⟩ 0 e0 ?_
 rintro _ T719 L719 X719 ⟨rfl, M719, e719⟩
 have N719 := Fr.app N0 M719
 show oG p e b T719 m 5 #[sR a1, sI 1, sI 3, sU, sU] [] _
 refine o_iloadN X719 j (dc44 3 rfl) rfl ?_
 refine o_iloadN X719 j (dc44 4 rfl) rfl ?_
 refine o_isubL X719 j (dc44 5 rfl) 2 ?_
 refine o_istoreN X719 j (dc44 6 rfl) (Ls' := #[sR a1, sI 1, sI 3, sI 2, sU]) rfl ?_
 refine o_iloadN X719 j (dc44 7 rfl) rfl ?_
 refine o_newA X719 j (dc44 8 rfl) 149 rfl e719 2 [(.int 0), (.int 0)] fun T720 h720 b720 X720 e720 g720 E720 A720 => ?_
 have z720 := ntr (Nat.le_refl _) (nqs g720)
 have l720 := (ntr Z0 z720)
 refine o_astore X720 j (dc44 9 rfl) rfl (Ls' := #[sR a1, sI 1, sI 3, sI 2, sR b720]) rfl ?_
 refine o_aloadN X720 j (dc44 10 rfl) rfl rfl ?_
 refine o_iloadN X720 j (dc44 11 rfl) rfl ?_
 refine o_aload X720 j (dc44 12 rfl) rfl rfl ?_
 refine o_iconstL X720 j (dc44 13 rfl) 0 ?_
 refine o_aloadN X720 j (dc44 14 rfl) rfl rfl ?_
 refine o_len X720 j (dc44 15 rfl) e720 ((A_0.ext E720)) 3 ?_
 refine o_iloadN X720 j (dc44 16 rfl) rfl ?_
 refine o_isubL X720 j (dc44 17 rfl) 2 ?_
 refine o_iloadN X720 j (dc44 18 rfl) rfl ?_
 refine o_callS X720 j (ct42 (2 : Int32) (2 : Int32) ((O_0.ext E720)) k (by decide)) rfl rfl (pL23 rfl) (dc44 19 rfl) 240 241 67 242 ⟨rfl, rfl, rfl, rfl⟩ 4 e720 ?_
 rintro _ T721 L721 X721 ⟨rfl, M721, e721⟩
 have N721 := Fr.app N719 M721
 show oG p e b T721 m 27 #[sR a1, sI 1, sI 3, sI 2, sR b720] [(.int 2), (.int 0), (.ref b720), (.int 1), (.ref a1)] _
 refine own_cp X721 hx hby (dc44 20 rfl).1 (pc' := 30) rfl hZ hown (ot k 243 rfl) (ot k 246 rfl) (ot k 244 rfl) (ot k 245 rfl) e721 (ty := .int) rfl ((A_0.ext E720)) A720 (by simp [fits]) (by simp [fits]) (by decide) (by decide) (by decide) (by show _ ≤ (3 : Nat); decide) (by show _ ≤ (2 : Nat); decide) (by show (3 : Nat) < _; decide) (by show (2 : Nat) < _; decide) (us := [(.int x1), (.int x2)]) (by rfl) N721 l720 (by rw [hml]; rfl) (by decide) (W := 0) (Nat.le_of_eq rfl) (by decide) ?_
 intro T722 h722 L722 X722 e722 N722 K722 A722
 show oG p e b T722 m 30 #[sR a1, sI 1, sI 3, sI 2, sR b720] [] _
 refine o_aload X722 j (dc44 21 rfl) rfl rfl ?_
 exact o_retA X722 j (dc44 22 rfl) e722 ⟨b720, rfl, N722, (((Keep.refl h0 []).ext E720).trans K722 (allS (Or.inr z720) all0)), z720, A722⟩
theorem ct119 (a1 : Addr) (x0 x1 x2 : Int32) (O_0 : Old Z n0 h0) (k : own_K Z a0 g) (A_0 : own_Ar Z h0 a1 .int [(.int x0), (.int x1), (.int x2)]) :
 mM43 l ws (oR 2 1 2 40) #[(.ref a1), (.int 1), (.int 3)] Z h0 fun v h L => ∃ (u0723 : Addr), v = some (.ref u0723) ∧ Fr n0 L ∧ Keep h0 h [] ∧ h0.size ≤ u0723 ∧ own_Ar Z h u0723 .int [(.int x1), (.int x2)] := by
 refine o_body own_pn43 k.1 (ef27 _ _ _) ?_
 intro p e s m b _ c T0 X0 j e0
 have N0 := Fr.nil n0
 have Z0 := own_Z0 O_0
 refine o_iloadN X0 j (dc43 0 rfl) rfl ?_
 refine o_ifYesD X0 j (dc43 1 rfl) 10 ?_
 refine o_aloadN X0 j (dc43 2 rfl) rfl rfl ?_
 refine o_iloadN X0 j (dc43 3 rfl) rfl ?_
 refine o_iloadN X0 j (dc43 4 rfl) rfl ?_
 refine o_callS X0 j (ct118 a1 x0 x1 x2 O_0 k A_0) rfl rfl (pL24 rfl) (dc43 5 rfl) 234 235 232 236 ⟨rfl, rfl, rfl, rfl⟩ 0 e0 ?_
 rintro _ T723 L723 X723 ⟨u0723, rfl, M723, K723, P0723, P1723⟩
 have N723 := Fr.app N0 M723
 have l723_0 := (ntr Z0 P0723)
 show oG p e b T723 m 16 #[sR a1, sI 1, sI 3] [(.ref u0723)] _
 exact o_retA X723 j (dc43 6 rfl) rfl ⟨u0723, rfl, N723, ((Keep.refl h0 []).trans K723 all0), P0723, P1723⟩
def D120_0 (x0 : Int64) : Int64 := ((x0.toUInt64 >>> ((32 : Int32) &&& 0x3f).toInt64.toUInt64).toInt64)
def D120_1 (x0 : Int64) : Int64 := (((4000000000 : Int64) * (x0 &&& (4294967295 : Int64))) + (0 : Int64))
def D120_2 (x0 : Int64) : Int64 := (((D120_1 x0).toUInt64 >>> ((32 : Int32) &&& 0x3f).toInt64.toUInt64).toInt64)
def D120_3 (x0 : Int64) : Int64 := ((((4000000000 : Int64) * (D120_0 x0)) + ((((D120_2 x0).toInt32).toInt64) &&& (4294967295 : Int64))) + (0 : Int64))
def D120_4 (x0 : Int64) : Int64 := (((D120_3 x0).toUInt64 >>> ((32 : Int32) &&& 0x3f).toInt64.toUInt64).toInt64)
def H120 (x0 : Int64) : Bool := decide (¬ x0 = (0 : Int64)) && (decide (¬ x0 = (-9223372036854775808 : Int64)) && (decide ((0 : Int64) < x0) && (decide (¬ x0 < (0 : Int64)) && (decide (¬ (D120_0 x0) = (0 : Int64)) && (decide ((D120_4 x0) = (0 : Int64)) && true)))))
theorem own_pn61 : plainFor (⟨"java/math/BigInteger", "multiply", "(J)Ljava/math/BigInteger;"⟩ : MethodName) = true := plainFor_of_name (by first | (simp [plainName, overriddenIn]; done) | decide +kernel)
theorem ef36 (b0 : Addr) (b1 : Int64) (m : MethodId) : entryFrame m #[.ref b0, .long b1] 17 = mkF m 0 #[.val (.ref b0), .val (.long b1), .second, .unset, .unset, .unset, .unset, .unset, .unset, .unset, .unset, .unset, .unset, .unset, .unset, .unset, .unset] [] := by first | (simp [entryFrame, mkF, argsToLocals, Value.category]; done) | rfl
abbrev mM61 (l : Launch) := own_Met l (⟨"java/math/BigInteger", "multiply", "(J)Ljava/math/BigInteger;"⟩ : MethodName) jdk_2097_method_44_code 17 (some (.object "java/math/BigInteger"))
theorem ct120 (a1 : Addr) (x0 : Int64) (o1 : Addr) (O_0 : Old Z n0 h0) (k : own_K Z a0 g) (E_0 : Ee0 Z h0 a1) (F0mag : Ff1 Z h0 a1 (.ref o1)) (F0signum : Ff0 Z h0 a1 (.int 1)) (A_1 : own_Ar Z h0 o1 .int [(.int (-294967296))]) (hH : H120 x0 = true) :
 mM61 l ws (oR 3 3 11 54) #[(.ref a1), (.long x0)] Z h0 fun v h L => ∃ (b737 : Addr) (u0736 : Addr), v = some (.ref b737) ∧ Fr n0 L ∧ Keep h0 h [] ∧ h0.size ≤ b737 ∧ h0.size ≤ u0736 ∧ u0736 ≠ b737 ∧ Ee0 Z h b737 ∧ Ff8 Z h b737 (.int 0) ∧ Ff1 Z h b737 (.ref u0736) ∧ Ff0 Z h b737 (.int 1) ∧ own_Ar Z h u0736 .int [(.int ((D120_3 x0).toInt32)), (.int ((D120_1 x0).toInt32))] := by
 refine o_body own_pn61 k.1 (ef36 _ _) ?_
 intro p e s m b _ c T0 X0 j e0
 have N0 := Fr.nil n0
 have Z0 := own_Z0 O_0
 obtain ⟨hh0, q0⟩ := o_ad hH
 obtain ⟨hh1, q1⟩ := o_ad q0
 obtain ⟨hh2, q2⟩ := o_ad q1
 obtain ⟨hh3, q3⟩ := o_ad q2
 obtain ⟨hh4, q4⟩ := o_ad q3
 obtain ⟨hh5, q5⟩ := o_ad q4
 refine o_lloadN X0 j (dc61 0 rfl) rfl ?_
 refine o_lconstL X0 j (dc61 1 rfl) 0 ?_
 refine o_lcmp X0 j (dc61 2 rfl) ?_
 refine o_ifNo X0 j (dc61 3 rfl) (feq (fun q => hh0 ((lw_eq x0 (0 : Int64)).mp q))).1 ?_
 refine o_aloadN X0 j (dc61 4 rfl) rfl rfl ?_
 refine o_getF X0 j (dc61 5 rfl) 147 rfl e0 F0signum fun T724 X724 e724 => ?_
 refine o_ifYesD X724 j (dc61 6 rfl) 17 ?_
 refine o_lloadN X724 j (dc61 7 rfl) rfl ?_
 refine o_ldc2 X724 j (dc61 8 rfl) 315 rfl ?_
 refine o_lcmp X724 j (dc61 9 rfl) ?_
 refine o_ifYes X724 j (dc61 10 rfl) 34 (feq (fun q => hh1 ((lw_eq x0 (-9223372036854775808 : Int64)).mp q))).2 ?_
 refine o_lloadN X724 j (dc61 11 rfl) rfl ?_
 refine o_lconstL X724 j (dc61 12 rfl) 0 ?_
 refine o_lcmp X724 j (dc61 13 rfl) ?_
 refine o_ifNo X724 j (dc61 14 rfl) (tlt ((lw_gt x0 (0 : Int64)).mpr hh2)).2.2.2 ?_
 refine o_aloadN X724 j (dc61 15 rfl) rfl rfl ?_
 refine o_getF X724 j (dc61 16 rfl) 147 rfl e724 F0signum fun T725 X725 e725 => ?_
 refine o_goto X725 j (dc61 17 rfl) 52 ?_
 refine o_istoreN X725 j (dc61 18 rfl) (Ls' := #[sR a1, sJ x0, s2, sI 1, sU, sU, sU, sU, sU, sU, sU, sU, sU, sU, sU, sU, sU]) rfl ?_
 refine o_lloadN X725 j (dc61 19 rfl) rfl ?_
 refine o_lconstL X725 j (dc61 20 rfl) 0 ?_
 refine o_lcmp X725 j (dc61 21 rfl) ?_
 refine o_ifYes X725 j (dc61 22 rfl) 62 (flt (fun q => hh3 ((lw_lt x0 (0 : Int64)).mp q))).2.1 ?_
 refine o_lloadN X725 j (dc61 23 rfl) rfl ?_
 refine o_bipushL X725 j (dc61 24 rfl) 32 ?_
 refine o_lushr X725 j (dc61 25 rfl) ?_
 refine o_lstore X725 j (dc61 26 rfl) (Ls' := #[sR a1, sJ x0, s2, sI 1, sJ (D120_0 x0), s2, sU, sU, sU, sU, sU, sU, sU, sU, sU, sU, sU]) rfl ?_
 refine o_lloadN X725 j (dc61 27 rfl) rfl ?_
 refine o_ldc2 X725 j (dc61 28 rfl) 281 rfl ?_
 refine o_land X725 j (dc61 29 rfl) ?_
 refine o_lstore X725 j (dc61 30 rfl) (Ls' := #[sR a1, sJ x0, s2, sI 1, sJ (D120_0 x0), s2, sJ (x0 &&& (4294967295 : Int64)), s2, sU, sU, sU, sU, sU, sU, sU, sU, sU]) rfl ?_
 refine o_aloadN X725 j (dc61 31 rfl) rfl rfl ?_
 refine o_getF X725 j (dc61 32 rfl) 150 rfl e725 F0mag fun T726 X726 e726 => ?_
 refine o_len X726 j (dc61 33 rfl) e726 A_1 1 ?_
 refine o_istore X726 j (dc61 34 rfl) (Ls' := #[sR a1, sJ x0, s2, sI 1, sJ (D120_0 x0), s2, sJ (x0 &&& (4294967295 : Int64)), s2, sI 1, sU, sU, sU, sU, sU, sU, sU, sU]) rfl ?_
 refine o_aloadN X726 j (dc61 35 rfl) rfl rfl ?_
 refine o_getF X726 j (dc61 36 rfl) 150 rfl e726 F0mag fun T727 X727 e727 => ?_
 refine o_astore X727 j (dc61 37 rfl) rfl (Ls' := #[sR a1, sJ x0, s2, sI 1, sJ (D120_0 x0), s2, sJ (x0 &&& (4294967295 : Int64)), s2, sI 1, sR o1, sU, sU, sU, sU, sU, sU, sU]) rfl ?_
 refine o_lload X727 j (dc61 38 rfl) rfl ?_
 refine o_lconstL X727 j (dc61 39 rfl) 0 ?_
 refine o_lcmp X727 j (dc61 40 rfl) ?_
 refine o_ifYes X727 j (dc61 41 rfl) 104 (feq (fun q => hh4 ((lw_eq (D120_0 x0) (0 : Int64)).mp q))).2 ?_
 refine o_iload X727 j (dc61 42 rfl) rfl ?_
 refine o_iconstL X727 j (dc61 43 rfl) 2 ?_
 refine o_iaddL X727 j (dc61 44 rfl) 3 ?_
 refine o_newA X727 j (dc61 45 rfl) 149 rfl e727 3 [(.int 0), (.int 0), (.int 0)] fun T728 h728 b728 X728 e728 g728 E728 A728 => ?_
 have z728 := ntr (Nat.le_refl _) (nqs g728)
 have l728 := (ntr Z0 z728)
 refine o_astore X728 j (dc61 46 rfl) rfl (Ls' := #[sR a1, sJ x0, s2, sI 1, sJ (D120_0 x0), s2, sJ (x0 &&& (4294967295 : Int64)), s2, sI 1, sR o1, sR b728, sU, sU, sU, sU, sU, sU]) rfl ?_
 refine o_lconstL X728 j (dc61 47 rfl) 0 ?_
 refine o_lstore X728 j (dc61 48 rfl) (Ls' := #[sR a1, sJ x0, s2, sI 1, sJ (D120_0 x0), s2, sJ (x0 &&& (4294967295 : Int64)), s2, sI 1, sR o1, sR b728, sJ 0, s2, sU, sU, sU, sU]) rfl ?_
 refine o_aload X728 j (dc61 49 rfl) rfl rfl ?_
 refine o_len X728 j (dc61 50 rfl) e728 A728 3 ?_
 refine o_iconstL X728 j (dc61 51 rfl) 1 ?_
 refine o_isubL X728 j (dc61 52 rfl) 2 ?_
 refine o_istore X728 j (dc61 53 rfl) (Ls' := #[sR a1, sJ x0, s2, sI 1, sJ (D120_0 x0), s2, sJ (x0 &&& (4294967295 : Int64)), s2, sI 1, sR o1, sR b728, sJ 0, s2, sI 2, sU, sU, sU]) rfl ?_
 refine o_iload X728 j (dc61 54 rfl) rfl ?_
 refine o_iconstL X728 j (dc61 55 rfl) 1 ?_
 refine o_isubL X728 j (dc61 56 rfl) 0 ?_
 refine o_istore X728 j (dc61 57 rfl) (Ls' := #[sR a1, sJ x0, s2, sI 1, sJ (D120_0 x0), s2, sJ (x0 &&& (4294967295 : Int64)), s2, sI 1, sR o1, sR b728, sJ 0, s2, sI 2, sI 0, sU, sU]) rfl ?_
 refine o_iload X728 j (dc61 58 rfl) rfl ?_
 refine o_ifNoD X728 j (dc61 59 rfl) ?_
 refine o_aload X728 j (dc61 60 rfl) rfl rfl ?_
 refine o_iload X728 j (dc61 61 rfl) rfl ?_
 refine o_iaload X728 j (dc61 62 rfl) e728 ((A_1.ext E728)) (.int (-294967296)) ?_
 refine o_i2lL X728 j (dc61 63 rfl) (-294967296) ?_
 refine o_ldc2 X728 j (dc61 64 rfl) 281 rfl ?_
 refine o_landL X728 j (dc61 65 rfl) 4000000000 ?_
 refine o_lload X728 j (dc61 66 rfl) rfl ?_
 refine o_lmul X728 j (dc61 67 rfl) ?_
 refine o_lload X728 j (dc61 68 rfl) rfl ?_
 refine o_ladd X728 j (dc61 69 rfl) ?_
 refine o_lstore X728 j (dc61 70 rfl) (Ls' := #[sR a1, sJ x0, s2, sI 1, sJ (D120_0 x0), s2, sJ (x0 &&& (4294967295 : Int64)), s2, sI 1, sR o1, sR b728, sJ 0, s2, sI 2, sI 0, sJ (D120_1 x0), s2]) rfl ?_
 refine o_aload X728 j (dc61 71 rfl) rfl rfl ?_
 refine o_iload X728 j (dc61 72 rfl) rfl ?_
 refine o_iinc X728 j (dc61 73 rfl) rfl (z := 1) (by decide) (Ls' := #[sR a1, sJ x0, s2, sI 1, sJ (D120_0 x0), s2, sJ (x0 &&& (4294967295 : Int64)), s2, sI 1, sR o1, sR b728, sJ 0, s2, sI 1, sI 0, sJ (D120_1 x0), s2]) rfl ?_
 refine o_lload X728 j (dc61 74 rfl) rfl ?_
 refine o_l2i X728 j (dc61 75 rfl) ?_
 refine o_iastore X728 j (dc61 76 rfl) e728 A728 (.int 0) fun T729 h729 X729 e729 W729 A729 => ?_
 have B729 : own_Ar Z h729 b728 .int [(.int 0), (.int 0), (.int ((D120_1 x0).toInt32))] := A729
 have N729 := Fr.snoc X729 N0 l728
 refine o_lload X729 j (dc61 77 rfl) rfl ?_
 refine o_bipushL X729 j (dc61 78 rfl) 32 ?_
 refine o_lushr X729 j (dc61 79 rfl) ?_
 refine o_lstore X729 j (dc61 80 rfl) (Ls' := #[sR a1, sJ x0, s2, sI 1, sJ (D120_0 x0), s2, sJ (x0 &&& (4294967295 : Int64)), s2, sI 1, sR o1, sR b728, sJ (D120_2 x0), s2, sI 1, sI 0, sJ (D120_1 x0), s2]) rfl ?_
 refine o_iinc X729 j (dc61 81 rfl) rfl (z := -1) (by decide) (Ls' := #[sR a1, sJ x0, s2, sI 1, sJ (D120_0 x0), s2, sJ (x0 &&& (4294967295 : Int64)), s2, sI 1, sR o1, sR b728, sJ (D120_2 x0), s2, sI 1, sI (-1), sJ (D120_1 x0), s2]) rfl ?_
 refine o_goto X729 j (dc61 82 rfl) 128 ?_
 refine o_iload X729 j (dc61 58 rfl) rfl ?_
 refine o_ifYesD X729 j (dc61 59 rfl) 175 ?_
 refine o_aload X729 j (dc61 83 rfl) rfl rfl ?_
 refine o_iload X729 j (dc61 84 rfl) rfl ?_
 refine o_lload X729 j (dc61 85 rfl) rfl ?_
 refine o_l2i X729 j (dc61 86 rfl) ?_
 refine o_iastore X729 j (dc61 87 rfl) e729 B729 (.int 0) fun T730 h730 X730 e730 W730 A730 => ?_
 have B730 : own_Ar Z h730 b728 .int [(.int 0), (.int ((D120_2 x0).toInt32)), (.int ((D120_1 x0).toInt32))] := A730
 have N730 := Fr.snoc X730 N729 l728
 refine o_lload X730 j (dc61 88 rfl) rfl ?_
 refine o_lconstL X730 j (dc61 89 rfl) 0 ?_
 refine o_lcmp X730 j (dc61 90 rfl) ?_
 refine o_ifNo X730 j (dc61 91 rfl) (feq (fun q => hh4 ((lw_eq (D120_0 x0) (0 : Int64)).mp q))).1 ?_
 refine o_lconstL X730 j (dc61 92 rfl) 0 ?_
 refine o_lstore X730 j (dc61 93 rfl) (Ls' := #[sR a1, sJ x0, s2, sI 1, sJ (D120_0 x0), s2, sJ (x0 &&& (4294967295 : Int64)), s2, sI 1, sR o1, sR b728, sJ 0, s2, sI 1, sI (-1), sJ (D120_1 x0), s2]) rfl ?_
 refine o_aload X730 j (dc61 94 rfl) rfl rfl ?_
 refine o_len X730 j (dc61 95 rfl) e730 B730 3 ?_
 refine o_iconstL X730 j (dc61 96 rfl) 2 ?_
 refine o_isubL X730 j (dc61 97 rfl) 1 ?_
 refine o_istore X730 j (dc61 98 rfl) (Ls' := #[sR a1, sJ x0, s2, sI 1, sJ (D120_0 x0), s2, sJ (x0 &&& (4294967295 : Int64)), s2, sI 1, sR o1, sR b728, sJ 0, s2, sI 1, sI (-1), sJ (D120_1 x0), s2]) rfl ?_
 refine o_iload X730 j (dc61 99 rfl) rfl ?_
 refine o_iconstL X730 j (dc61 100 rfl) 1 ?_
 refine o_isubL X730 j (dc61 101 rfl) 0 ?_
 refine o_istore X730 j (dc61 102 rfl) (Ls' := #[sR a1, sJ x0, s2, sI 1, sJ (D120_0 x0), s2, sJ (x0 &&& (4294967295 : Int64)), s2, sI 1, sR o1, sR b728, sJ 0, s2, sI 1, sI 0, sJ (D120_1 x0), s2]) rfl ?_
 refine o_iload X730 j (dc61 103 rfl) rfl ?_
 refine o_ifNoD X730 j (dc61 104 rfl) ?_
 refine o_aload X730 j (dc61 105 rfl) rfl rfl ?_
 refine o_iload X730 j (dc61 106 rfl) rfl ?_
 have d731 := (nne (nlt A_1.lt (nqs g728)))
 have y732 := (((A_1.ext E728).other W729 d731).other W730 d731)
 refine o_iaload X730 j (dc61 107 rfl) e730 y732 (.int (-294967296)) ?_
 refine o_i2lL X730 j (dc61 108 rfl) (-294967296) ?_
 refine o_ldc2 X730 j (dc61 109 rfl) 281 rfl ?_
 refine o_landL X730 j (dc61 110 rfl) 4000000000 ?_
 refine o_lload X730 j (dc61 111 rfl) rfl ?_
 refine o_lmul X730 j (dc61 112 rfl) ?_
 refine o_aload X730 j (dc61 113 rfl) rfl rfl ?_
 refine o_iload X730 j (dc61 114 rfl) rfl ?_
 refine o_iaload X730 j (dc61 115 rfl) e730 B730 (.int ((D120_2 x0).toInt32)) ?_
 refine o_i2l X730 j (dc61 116 rfl) ?_
 refine o_ldc2 X730 j (dc61 117 rfl) 281 rfl ?_
 refine o_land X730 j (dc61 118 rfl) ?_
 refine o_ladd X730 j (dc61 119 rfl) ?_
 refine o_lload X730 j (dc61 120 rfl) rfl ?_
 refine o_ladd X730 j (dc61 121 rfl) ?_
 refine o_lstore X730 j (dc61 122 rfl) (Ls' := #[sR a1, sJ x0, s2, sI 1, sJ (D120_0 x0), s2, sJ (x0 &&& (4294967295 : Int64)), s2, sI 1, sR o1, sR b728, sJ 0, s2, sI 1, sI 0, sJ (D120_3 x0), s2]) rfl ?_
 refine o_aload X730 j (dc61 123 rfl) rfl rfl ?_
 refine o_iload X730 j (dc61 124 rfl) rfl ?_
 refine o_iinc X730 j (dc61 125 rfl) rfl (z := 0) (by decide) (Ls' := #[sR a1, sJ x0, s2, sI 1, sJ (D120_0 x0), s2, sJ (x0 &&& (4294967295 : Int64)), s2, sI 1, sR o1, sR b728, sJ 0, s2, sI 0, sI 0, sJ (D120_3 x0), s2]) rfl ?_
 refine o_lload X730 j (dc61 126 rfl) rfl ?_
 refine o_l2i X730 j (dc61 127 rfl) ?_
 refine o_iastore X730 j (dc61 128 rfl) e730 B730 (.int ((D120_2 x0).toInt32)) fun T733 h733 X733 e733 W733 A733 => ?_
 have B733 : own_Ar Z h733 b728 .int [(.int 0), (.int ((D120_3 x0).toInt32)), (.int ((D120_1 x0).toInt32))] := A733
 have N733 := Fr.snoc X733 N730 l728
 refine o_lload X733 j (dc61 129 rfl) rfl ?_
 refine o_bipushL X733 j (dc61 130 rfl) 32 ?_
 refine o_lushr X733 j (dc61 131 rfl) ?_
 refine o_lstore X733 j (dc61 132 rfl) (Ls' := #[sR a1, sJ x0, s2, sI 1, sJ (D120_0 x0), s2, sJ (x0 &&& (4294967295 : Int64)), s2, sI 1, sR o1, sR b728, sJ (D120_4 x0), s2, sI 0, sI 0, sJ (D120_3 x0), s2]) rfl ?_
 refine o_iinc X733 j (dc61 133 rfl) rfl (z := -1) (by decide) (Ls' := #[sR a1, sJ x0, s2, sI 1, sJ (D120_0 x0), s2, sJ (x0 &&& (4294967295 : Int64)), s2, sI 1, sR o1, sR b728, sJ (D120_4 x0), s2, sI 0, sI (-1), sJ (D120_3 x0), s2]) rfl ?_
 refine o_goto X733 j (dc61 134 rfl) 206 ?_
 refine o_iload X733 j (dc61 103 rfl) rfl ?_
 refine o_ifYesD X733 j (dc61 104 rfl) 264 ?_
 refine o_aload X733 j (dc61 135 rfl) rfl rfl ?_
 refine o_iconstL X733 j (dc61 136 rfl) 0 ?_
 refine o_lload X733 j (dc61 137 rfl) rfl ?_
 refine o_l2i X733 j (dc61 138 rfl) ?_
 refine o_iastore X733 j (dc61 139 rfl) e733 B733 (.int 0) fun T734 h734 X734 e734 W734 A734 => ?_
 have B734 : own_Ar Z h734 b728 .int [(.int ((D120_4 x0).toInt32)), (.int ((D120_3 x0).toInt32)), (.int ((D120_1 x0).toInt32))] := A734
 have N734 := Fr.snoc X734 N733 l728
 refine o_lload X734 j (dc61 140 rfl) rfl ?_
 refine o_lconstL X734 j (dc61 141 rfl) 0 ?_
 refine o_lcmp X734 j (dc61 142 rfl) ?_
 refine o_ifNo X734 j (dc61 143 rfl) (teq ((lw_eq (D120_4 x0) (0 : Int64)).mpr hh5)).2 ?_
 refine o_aload X734 j (dc61 144 rfl) rfl rfl ?_
 refine o_iconstL X734 j (dc61 145 rfl) 1 ?_
 refine o_aload X734 j (dc61 146 rfl) rfl rfl ?_
 refine o_len X734 j (dc61 147 rfl) e734 B734 3 ?_
 have y735 := (((((O_0.ext E728).wr W729 l728).wr W730 l728).wr W733 l728).wr W734 l728)
 refine o_callS X734 j (ct119 b728 ((D120_4 x0).toInt32) ((D120_3 x0).toInt32) ((D120_1 x0).toInt32) y735 k B734) rfl rfl (pL24 rfl) (dc61 148 rfl) 317 231 232 233 ⟨rfl, rfl, rfl, rfl⟩ 0 e734 ?_
 rintro _ T736 L736 X736 ⟨u0736, rfl, M736, K736, P0736, P1736⟩
 have N736 := Fr.app N734 M736
 have l736_0 := (ntr Z0 (ntr (ntr (ntr (ntr (ntr E728.1 (nqs (Wr.size W729))) (nqs (Wr.size W730))) (nqs (Wr.size W733))) (nqs (Wr.size W734))) P0736))
 show oG p e b T736 m 287 #[sR a1, sJ x0, s2, sI 1, sJ (D120_0 x0), s2, sJ (x0 &&& (4294967295 : Int64)), s2, sI 1, sR o1, sR b728, sJ (D120_4 x0), s2, sI 0, sI (-1), sJ (D120_3 x0), s2] [(.ref u0736)] _
 refine o_astore X736 j (dc61 149 rfl) rfl (Ls' := #[sR a1, sJ x0, s2, sI 1, sJ (D120_0 x0), s2, sJ (x0 &&& (4294967295 : Int64)), s2, sI 1, sR o1, sR u0736, sJ (D120_4 x0), s2, sI 0, sI (-1), sJ (D120_3 x0), s2]) rfl ?_
 refine o_new X736 j (dc61 150 rfl) 139 140 136 ⟨rfl, rfl, rfl⟩ rfl fun T737 h737 b737 X737 e737 g737 E737 A737 D737 => ?_
 have F737_signum : Ff0 Z h737 b737 (.int 0) := D737 (Or.inr (ot k 148 rfl)) (ty := .int) (by decide)
 have F737_mag : Ff1 Z h737 b737 .null := D737 (Or.inr (ot k 151 rfl)) (ty := (.array .int)) (by decide)
 have F737_bitLengthPlusOne : Ff8 Z h737 b737 (.int 0) := D737 (Or.inl (ot k 261 rfl)) (ty := .int) (by decide)
 have z737 := ntr (ntr (ntr (ntr (ntr (ntr E728.1 (nqs (Wr.size W729))) (nqs (Wr.size W730))) (nqs (Wr.size W733))) (nqs (Wr.size W734))) K736.1) (nqs g737)
 have l737 := (ntr Z0 z737)
 refine o_dup X737 j (dc61 151 rfl) rfl ?_
 refine o_aload X737 j (dc61 152 rfl) rfl rfl ?_
 refine o_iloadN X737 j (dc61 153 rfl) rfl ?_
 have d738 := (nne (nlt P1736.lt (nqs g737)))
 have d739 := (Ne.symm d738)
 refine o_callSp X737 j (ct104 b737 u0736 ((D120_3 x0).toInt32) ((D120_1 x0).toInt32) (((y735.keep K736 all0).ext E737)) k A737 (F737_bitLengthPlusOne) (F737_mag) (F737_signum) l737 ((P1736.ext E737)) d739) rfl rfl (pL25 rfl) (dc61 154 rfl) 316 251 252 136 ⟨rfl, rfl, rfl, rfl⟩ 1 e737 ?_
 rintro _ T740 L740 X740 ⟨rfl, M740, K740, P0740, P1740, P2740⟩
 have N740 := Fr.app N736 M740
 show oG p e b T740 m 299 #[sR a1, sJ x0, s2, sI 1, sJ (D120_0 x0), s2, sJ (x0 &&& (4294967295 : Int64)), s2, sI 1, sR o1, sR u0736, sJ (D120_4 x0), s2, sI 0, sI (-1), sJ (D120_3 x0), s2] [(.ref b737)] _
 exact o_retA X740 j (dc61 155 rfl) rfl ⟨b737, u0736, rfl, N740, (((((((((Keep.refl h0 []).ext E728).wr W729 (Or.inr z728)).wr W730 (Or.inr z728)).wr W733 (Or.inr z728)).wr W734 (Or.inr z728)).trans K736 all0).ext E737).trans K740 (allS (Or.inr z737) all0)), z737, (ntr (ntr (ntr (ntr (ntr E728.1 (nqs (Wr.size W729))) (nqs (Wr.size W730))) (nqs (Wr.size W733))) (nqs (Wr.size W734))) P0736), d738, (A737.keep K740), P0740, P1740, P2740, ((P1736.ext E737).keep K740 (ninS d738 nin0))⟩
theorem ef37 (b0 b1 : Addr) (b2 : Int64) (b3 b4 : Int32) (m : MethodId) : entryFrame m #[.ref b0, .ref b1, .long b2, .int b3, .int b4] 6 = mkF m 0 #[.val (.ref b0), .val (.ref b1), .val (.long b2), .second, .val (.int b3), .val (.int b4)] [] := by first | (simp [entryFrame, mkF, argsToLocals, Value.category]; done) | rfl
theorem ct121 (a1 a2 : Addr) (x0 : Int32) (O_0 : Old Z n0 h0) (k : own_K Z a0 g) (E_0 : Ee1 Z h0 a1) (F0intCompact : Ff2 Z h0 a1 (.long 0)) (F0intVal : Ff6 Z h0 a1 .null) (F0precision : Ff7 Z h0 a1 (.int 0)) (F0scale : Ff3 Z h0 a1 (.int 0)) (G_0 : n0 ≤ a1) (E_1 : Ee0 Z h0 a2) :
 mM16 l ws (oR 2 0 0 24) #[(.ref a1), (.ref a2), (.long (-9223372036854775808)), (.int x0), (.int 0)] Z h0 fun v h L => v = none ∧ Fr n0 L ∧ Keep h0 h [a1] ∧ Ff2 Z h a1 (.long (-9223372036854775808)) ∧ Ff6 Z h a1 (.ref a2) ∧ Ff7 Z h a1 (.int 0) ∧ Ff3 Z h a1 (.int x0) := by
 refine o_body own_pn16 k.1 (ef37 _ _ _ _ _) ?_
 intro p e s m b _ c T0 X0 j e0
 have N0 := Fr.nil n0
 have Z0 := own_Z0 O_0
 refine o_aloadN X0 j (dc16 0 rfl) rfl rfl ?_
 refine o_callSp X0 j (ct10 a1 O_0 k E_0) rfl rfl (pL3 rfl) (dc16 1 rfl) 82 83 87 86 ⟨rfl, rfl, rfl, rfl⟩ 0 e0 ?_
 rintro _ T741 L741 X741 ⟨rfl, M741, e741⟩
 have N741 := Fr.app N0 M741
 show oG p e b T741 m 4 #[sR a1, sR a2, sJ (-9223372036854775808), s2, sI x0, sI 0] [] _
 refine o_aloadN X741 j (dc16 2 rfl) rfl rfl ?_
 refine o_iload X741 j (dc16 3 rfl) rfl ?_
 refine o_putf X741 j (dc16 4 rfl) 52 53 77 ⟨rfl, rfl, rfl⟩ .int e741 F0scale E_0 fun T742 h742 X742 e742 W742 => ?_
 have F742 := (F0scale).same W742
 have N742 := Fr.snoc X742 N741 G_0
 refine o_aloadN X742 j (dc16 5 rfl) rfl rfl ?_
 refine o_iload X742 j (dc16 6 rfl) rfl ?_
 have y744 := (F0precision.other W742 (Or.inr (sn0 k)))
 refine o_put X742 j (dc16 7 rfl) 91 92 77 ⟨rfl, rfl, rfl⟩ .int e742 y744 (E_0.wr W742) fun T743 h743 X743 e743 W743 => ?_
 have F743 := y744.same W743
 have N743 := Fr.snoc X743 N742 G_0
 refine o_aloadN X743 j (dc16 8 rfl) rfl rfl ?_
 refine o_lloadN X743 j (dc16 9 rfl) rfl ?_
 have y746 := ((F0intCompact.other W742 (Or.inr (sn1 k))).other W743 (Or.inr (sn2 k)))
 refine o_putf X743 j (dc16 10 rfl) 49 50 77 ⟨rfl, rfl, rfl⟩ .long e743 y746 ((E_0.wr W742).wr W743) fun T745 h745 X745 e745 W745 => ?_
 have F745 := y746.same W745
 have N745 := Fr.snoc X745 N743 G_0
 refine o_aloadN X745 j (dc16 11 rfl) rfl rfl ?_
 refine o_aloadN X745 j (dc16 12 rfl) rfl rfl ?_
 have y748 := (((F0intVal.other W742 (Or.inr (sn3 k))).other W743 (Or.inr (sn4 k))).other W745 (Or.inr (sn5 k)))
 refine o_putf X745 j (dc16 13 rfl) 93 94 77 ⟨rfl, rfl, rfl⟩ (.object "java/math/BigInteger") e745 y748 (((E_0.wr W742).wr W743).wr W745) fun T747 h747 X747 e747 W747 => ?_
 have F747 := y748.same W747
 have N747 := Fr.snoc X747 N745 G_0
 have y749 := (F745.other W747 (Or.inr (sn6 k)))
 have y750 := ((F743.other W745 (Or.inr (sn7 k))).other W747 (Or.inr (sn8 k)))
 have y751 := (((F742.other W743 (Or.inr (sn9 k))).other W745 (Or.inr (sn10 k))).other W747 (Or.inr (sn11 k)))
 exact o_retV X747 j (dc16 14 rfl) e747 ⟨rfl, N747, (((((Keep.refl h0 [a1]).wr W742 (mI 0 rfl)).wr W743 (mI 0 rfl)).wr W745 (mI 0 rfl)).wr W747 (mI 0 rfl)), y749, F747, y750, y751⟩
def H122 (x0 : Int64) : Bool := (H115 x0) && ((H120 x0) && true)
theorem ct122 (x0 : Int64) (O_0 : Old Z n0 h0) (k : own_K Z a0 g) (hH : H122 x0 = true) :
 mM21 l ws (oR 4 6 23 84) #[(.long 4000000000), (.long x0), (.int 9)] Z h0 fun v h L => ∃ (b753 : Addr) (u0755 : Addr) (u1755 : Addr), v = some (.ref b753) ∧ Fr n0 L ∧ Keep h0 h [] ∧ h0.size ≤ b753 ∧ h0.size ≤ u0755 ∧ h0.size ≤ u1755 ∧ u0755 ≠ b753 ∧ u1755 ≠ b753 ∧ u1755 ≠ u0755 ∧ Ee1 Z h b753 ∧ Ff2 Z h b753 (.long (-9223372036854775808)) ∧ Ff6 Z h b753 (.ref u0755) ∧ Ff7 Z h b753 (.int 0) ∧ Ff3 Z h b753 (.int 9) ∧ Ee0 Z h u0755 ∧ Ff8 Z h u0755 (.int 0) ∧ Ff1 Z h u0755 (.ref u1755) ∧ Ff0 Z h u0755 (.int 1) ∧ own_Ar Z h u1755 .int [(.int ((D120_3 x0).toInt32)), (.int ((D120_1 x0).toInt32))] := by
 refine o_body own_pn21 k.1 (ef10 _ _ _) ?_
 intro p e s m b _ c T0 X0 j e0
 have N0 := Fr.nil n0
 have Z0 := own_Z0 O_0
 obtain ⟨hh0, q0⟩ := own_and hH
 obtain ⟨hh1, q1⟩ := own_and q0
 refine o_lloadN X0 j (dc21 0 rfl) rfl ?_
 refine o_lloadN X0 j (dc21 1 rfl) rfl ?_
 refine o_callS X0 j (ct115 x0 O_0 k hh0) rfl rfl (pL5 rfl) (dc21 2 rfl) 108 109 34 110 ⟨rfl, rfl, rfl, rfl⟩ 0 e0 ?_
 rintro _ T752 L752 X752 ⟨rfl, M752, e752⟩
 have N752 := Fr.app N0 M752
 show oG p e b T752 m 5 #[sJ 4000000000, s2, sJ x0, s2, sI 9, sU, sU] [(.long (-9223372036854775808))] _
 refine o_lstore X752 j (dc21 3 rfl) (Ls' := #[sJ 4000000000, s2, sJ x0, s2, sI 9, sJ (-9223372036854775808), s2]) rfl ?_
 refine o_lload X752 j (dc21 4 rfl) rfl ?_
 refine o_ldc2 X752 j (dc21 5 rfl) 51 rfl ?_
 refine o_lcmp X752 j (dc21 6 rfl) ?_
 refine o_ifYes X752 j (dc21 7 rfl) 24 (teq ((lw_eq (-9223372036854775808 : Int64) (-9223372036854775808 : Int64)).mpr rfl)).1 ?_
 refine o_new X752 j (dc21 12 rfl) 76 77 34 ⟨rfl, rfl, rfl⟩ e752 fun T753 h753 b753 X753 e753 g753 E753 A753 D753 => ?_
 have F753_intCompact : Ff2 Z h753 b753 (.long 0) := D753 (Or.inr (ot k 50 rfl)) (ty := .long) (by decide)
 have F753_scale : Ff3 Z h753 b753 (.int 0) := D753 (Or.inr (ot k 53 rfl)) (ty := .int) (by decide)
 have F753_precision : Ff7 Z h753 b753 (.int 0) := D753 (Or.inl (ot k 92 rfl)) (ty := .int) (by decide)
 have F753_intVal : Ff6 Z h753 b753 .null := D753 (Or.inr (ot k 94 rfl)) (ty := (.object "java/math/BigInteger")) (by decide)
 have z753 := ntr (Nat.le_refl _) (nqs g753)
 have l753 := (ntr Z0 z753)
 refine o_dup X753 j (dc21 13 rfl) rfl ?_
 refine o_lloadN X753 j (dc21 14 rfl) rfl ?_
 refine o_callS X753 j (ct117 ((O_0.ext E753)) k (by decide)) rfl rfl (pL15 rfl) (dc21 15 rfl) 134 135 136 137 ⟨rfl, rfl, rfl, rfl⟩ 2 e753 ?_
 rintro _ T754 L754 X754 ⟨u0754, u1754, rfl, M754, K754, P0754, P1754, P2754, P3754, P4754, P5754, P6754, P7754⟩
 have N754 := Fr.app N752 M754
 have l754_0 := (ntr Z0 (ntr E753.1 P0754))
 have l754_1 := (ntr Z0 (ntr E753.1 P1754))
 show oG p e b T754 m 32 #[sJ 4000000000, s2, sJ x0, s2, sI 9, sJ (-9223372036854775808), s2] [(.ref u0754), (.ref b753), (.ref b753)] _
 refine o_lloadN X754 j (dc21 16 rfl) rfl ?_
 refine o_callV X754 j (ct120 u0754 x0 u1754 (((O_0.ext E753).keep K754 all0)) k P3754 P5754 P6754 P7754 hh1) rfl rfl (pL15 rfl) (dc21 17 rfl) 310 311 313 312 314 136 ⟨rfl, rfl, rfl, rfl, rfl, rfl⟩ P3754 2 rfl ?_
 rintro _ T755 L755 X755 ⟨u0755, u1755, rfl, M755, K755, P0755, P1755, P2755, P3755, P4755, P5755, P6755, P7755⟩
 have N755 := Fr.app N754 M755
 have l755_0 := (ntr Z0 (ntr (ntr E753.1 K754.1) P0755))
 have l755_1 := (ntr Z0 (ntr (ntr E753.1 K754.1) P1755))
 show oG p e b T755 m 36 #[sJ 4000000000, s2, sJ x0, s2, sI 9, sJ (-9223372036854775808), s2] [(.ref u0755), (.ref b753), (.ref b753)] _
 refine o_ldc2 X755 j (dc21 18 rfl) 51 rfl ?_
 refine o_iload X755 j (dc21 19 rfl) rfl ?_
 refine o_iconstL X755 j (dc21 20 rfl) 0 ?_
 have y756 := (((O_0.ext E753).keep K754 all0).keep K755 all0)
 have y757 := ((F753_intCompact.keep K754 nin0).keep K755 nin0)
 have y758 := ((F753_precision.keep K754 nin0).keep K755 nin0)
 refine o_callSp X755 j (ct121 b753 u0755 (9 : Int32) y756 k (((A753.keep K754).keep K755)) y757 (((F753_intVal.keep K754 nin0).keep K755 nin0)) y758 (((F753_scale.keep K754 nin0).keep K755 nin0)) l753 P3755) rfl rfl (pL4 rfl) (dc21 21 rfl) 78 79 81 34 ⟨rfl, rfl, rfl, rfl⟩ 1 rfl ?_
 rintro _ T759 L759 X759 ⟨rfl, M759, K759, P0759, P1759, P2759, P3759⟩
 have N759 := Fr.app N755 M759
 show oG p e b T759 m 45 #[sJ 4000000000, s2, sJ x0, s2, sI 9, sJ (-9223372036854775808), s2] [(.ref b753)] _
 have d760 := (nne (nlt (nlt A753.lt K754.1) P0755))
 have d761 := (Ne.symm d760)
 have d762 := (nne (nlt (nlt A753.lt K754.1) P1755))
 have d763 := (Ne.symm d762)
 exact o_retA X759 j (dc21 22 rfl) rfl ⟨b753, u0755, u1755, rfl, N759, (((((Keep.refl h0 []).ext E753).trans K754 all0).trans K755 all0).trans K759 (allS (Or.inr z753) all0)), z753, (ntr (ntr E753.1 K754.1) P0755), (ntr (ntr E753.1 K754.1) P1755), d761, d763, P2755, (((A753.keep K754).keep K755).keep K759), P0759, P1759, P2759, P3759, (P3755.keep K759), (P4755.keep K759 (ninS d761 nin0)), (P5755.keep K759 (ninS d761 nin0)), (P6755.keep K759 (ninS d761 nin0)), (P7755.keep K759 (ninS d763 nin0))⟩
def H123 (x0 : Int64) : Bool := decide (¬ (4000000000 : Int64) = (-9223372036854775808 : Int64)) && (decide (¬ x0 = (-9223372036854775808 : Int64)) && ((H122 x0) && true))
theorem ct123 (a1 a2 : Addr) (x0 : Int64) (O_0 : Old Z n0 h0) (k : own_K Z a0 g) (E_0 : Ee1 Z h0 a1) (F0intCompact : Ff2 Z h0 a1 (.long 4000000000)) (F0scale : Ff3 Z h0 a1 (.int 9)) (E_1 : Ee1 Z h0 a2) (F1intCompact : Ff2 Z h0 a2 (.long x0)) (F1scale : Ff3 Z h0 a2 (.int 0)) (hH : H123 x0 = true) :
 mM19 l ws (oR 5 6 23 102) #[(.ref a1), (.ref a2)] Z h0 fun v h L => ∃ (u0771 : Addr) (u1771 : Addr) (u2771 : Addr), v = some (.ref u0771) ∧ Fr n0 L ∧ Keep h0 h [] ∧ h0.size ≤ u0771 ∧ h0.size ≤ u1771 ∧ h0.size ≤ u2771 ∧ u1771 ≠ u0771 ∧ u2771 ≠ u0771 ∧ u2771 ≠ u1771 ∧ Ee1 Z h u0771 ∧ Ff2 Z h u0771 (.long (-9223372036854775808)) ∧ Ff6 Z h u0771 (.ref u1771) ∧ Ff7 Z h u0771 (.int 0) ∧ Ff3 Z h u0771 (.int 9) ∧ Ee0 Z h u1771 ∧ Ff8 Z h u1771 (.int 0) ∧ Ff1 Z h u1771 (.ref u2771) ∧ Ff0 Z h u1771 (.int 1) ∧ own_Ar Z h u2771 .int [(.int ((D120_3 x0).toInt32)), (.int ((D120_1 x0).toInt32))] := by
 refine o_body own_pn19 k.1 (ef15 _ _) ?_
 intro p e s m b _ c T0 X0 j e0
 have N0 := Fr.nil n0
 have Z0 := own_Z0 O_0
 obtain ⟨hh0, q0⟩ := o_ad hH
 obtain ⟨hh1, q1⟩ := o_ad q0
 obtain ⟨hh2, q2⟩ := own_and q1
 refine o_aloadN X0 j (dc19 0 rfl) rfl rfl ?_
 refine o_aloadN X0 j (dc19 1 rfl) rfl rfl ?_
 refine o_getF X0 j (dc19 2 rfl) 52 rfl e0 F0scale fun T764 X764 e764 => ?_
 refine o_i2lL X764 j (dc19 3 rfl) 9 ?_
 refine o_aloadN X764 j (dc19 4 rfl) rfl rfl ?_
 refine o_getF X764 j (dc19 5 rfl) 52 rfl e764 F1scale fun T765 X765 e765 => ?_
 refine o_i2lL X765 j (dc19 6 rfl) 0 ?_
 refine o_laddL X765 j (dc19 7 rfl) 9 ?_
 refine o_callPv X765 j (ct18 a1 (9 : Int64) O_0 k E_0 (by decide)) rfl rfl (pL13 rfl) (dc19 8 rfl) 100 102 103 101 104 34 ⟨rfl, rfl, rfl, rfl, rfl, rfl⟩ E_0 0 e765 ?_
 rintro _ T766 L766 X766 ⟨hv766, M766, e766⟩
 rw [show ((9 : Int64).toInt32) = (9 : Int32) from by decide +kernel] at hv766
 subst hv766
 have N766 := Fr.app N0 M766
 show oG p e b T766 m 15 #[sR a1, sR a2, sU] [(.int 9)] _
 refine o_istoreN X766 j (dc19 9 rfl) (Ls' := #[sR a1, sR a2, sI 9]) rfl ?_
 refine o_aloadN X766 j (dc19 10 rfl) rfl rfl ?_
 refine o_getF X766 j (dc19 11 rfl) 49 rfl e766 F0intCompact fun T767 X767 e767 => ?_
 refine o_ldc2 X767 j (dc19 12 rfl) 51 rfl ?_
 refine o_lcmp X767 j (dc19 13 rfl) ?_
 refine o_ifNo X767 j (dc19 14 rfl) (feq (fun q => hh0 ((lw_eq (4000000000 : Int64) (-9223372036854775808 : Int64)).mp q))).1 ?_
 refine o_aloadN X767 j (dc19 15 rfl) rfl rfl ?_
 refine o_getF X767 j (dc19 16 rfl) 49 rfl e767 F1intCompact fun T768 X768 e768 => ?_
 refine o_ldc2 X768 j (dc19 17 rfl) 51 rfl ?_
 refine o_lcmp X768 j (dc19 18 rfl) ?_
 refine o_ifNo X768 j (dc19 19 rfl) (feq (fun q => hh1 ((lw_eq x0 (-9223372036854775808 : Int64)).mp q))).1 ?_
 refine o_aloadN X768 j (dc19 20 rfl) rfl rfl ?_
 refine o_getF X768 j (dc19 21 rfl) 49 rfl e768 F0intCompact fun T769 X769 e769 => ?_
 refine o_aloadN X769 j (dc19 22 rfl) rfl rfl ?_
 refine o_getF X769 j (dc19 23 rfl) 49 rfl e769 F1intCompact fun T770 X770 e770 => ?_
 refine o_iloadN X770 j (dc19 24 rfl) rfl ?_
 refine o_callS X770 j (ct122 x0 O_0 k hh2) rfl rfl (pL9 rfl) (dc19 25 rfl) 105 106 34 107 ⟨rfl, rfl, rfl, rfl⟩ 0 e770 ?_
 rintro _ T771 L771 X771 ⟨u0771, u1771, u2771, rfl, M771, K771, P0771, P1771, P2771, P3771, P4771, P5771, P6771, P7771, P8771, P9771, P10771, P11771, P12771, P13771, P14771, P15771⟩
 have N771 := Fr.app N766 M771
 have l771_0 := (ntr Z0 P0771)
 have l771_1 := (ntr Z0 P1771)
 have l771_2 := (ntr Z0 P2771)
 show oG p e b T771 m 50 #[sR a1, sR a2, sI 9] [(.ref u0771)] _
 exact o_retA X771 j (dc19 26 rfl) rfl ⟨u0771, u1771, u2771, rfl, N771, ((Keep.refl h0 []).trans K771 all0), P0771, P1771, P2771, P3771, P4771, P5771, P6771, P7771, P8771, P9771, P10771, P11771, P12771, P13771, P14771, P15771⟩
theorem ct124 (a1 o1 : Addr) (O_0 : Old Z n0 h0) (k : own_K Z a0 g) (E_0 : Ee1 Z h0 a1) (F0intCompact : Ff2 Z h0 a1 (.long (-9223372036854775808))) (F0intVal : Ff6 Z h0 a1 (.ref o1)) (F0scale : Ff3 Z h0 a1 (.int 9)) (E_1 : Ee0 Z h0 o1) :
 mM24 l ws (oR 3 1 5 42) #[(.ref a1), (.int 9)] Z h0 fun v h L => ∃ (b774 : Addr), v = some (.ref b774) ∧ Fr n0 L ∧ Keep h0 h [] ∧ h0.size ≤ b774 ∧ Ee1 Z h b774 ∧ Ff2 Z h b774 (.long (-9223372036854775808)) ∧ Ff6 Z h b774 (.ref o1) ∧ Ff7 Z h b774 (.int 0) ∧ Ff3 Z h b774 (.int 0) := by
 refine o_body own_pn24 k.1 (ef16 _ _) ?_
 intro p e s m b _ c T0 X0 j e0
 have N0 := Fr.nil n0
 have Z0 := own_Z0 O_0
 refine o_iloadN X0 j (dc24 0 rfl) rfl ?_
 refine o_ifYesD X0 j (dc24 1 rfl) 13 ?_
 refine o_aloadN X0 j (dc24 2 rfl) rfl rfl ?_
 refine o_aloadN X0 j (dc24 3 rfl) rfl rfl ?_
 refine o_getF X0 j (dc24 4 rfl) 52 rfl e0 F0scale fun T772 X772 e772 => ?_
 refine o_i2lL X772 j (dc24 5 rfl) 9 ?_
 refine o_iloadN X772 j (dc24 6 rfl) rfl ?_
 refine o_i2lL X772 j (dc24 7 rfl) 9 ?_
 refine o_lsubL X772 j (dc24 8 rfl) 0 ?_
 refine o_callPv X772 j (ct18 a1 (0 : Int64) O_0 k E_0 (by decide)) rfl rfl (pL13 rfl) (dc24 9 rfl) 100 102 103 101 104 34 ⟨rfl, rfl, rfl, rfl, rfl, rfl⟩ E_0 0 e772 ?_
 rintro _ T773 L773 X773 ⟨hv773, M773, e773⟩
 rw [show ((0 : Int64).toInt32) = (0 : Int32) from by decide +kernel] at hv773
 subst hv773
 have N773 := Fr.app N0 M773
 show oG p e b T773 m 25 #[sR a1, sI 9, sU, sU] [(.int 0)] _
 refine o_istoreN X773 j (dc24 10 rfl) (Ls' := #[sR a1, sI 9, sI 0, sU]) rfl ?_
 refine o_new X773 j (dc24 11 rfl) 76 77 34 ⟨rfl, rfl, rfl⟩ e773 fun T774 h774 b774 X774 e774 g774 E774 A774 D774 => ?_
 have F774_intCompact : Ff2 Z h774 b774 (.long 0) := D774 (Or.inr (ot k 50 rfl)) (ty := .long) (by decide)
 have F774_scale : Ff3 Z h774 b774 (.int 0) := D774 (Or.inr (ot k 53 rfl)) (ty := .int) (by decide)
 have F774_precision : Ff7 Z h774 b774 (.int 0) := D774 (Or.inl (ot k 92 rfl)) (ty := .int) (by decide)
 have F774_intVal : Ff6 Z h774 b774 .null := D774 (Or.inr (ot k 94 rfl)) (ty := (.object "java/math/BigInteger")) (by decide)
 have z774 := ntr (Nat.le_refl _) (nqs g774)
 have l774 := (ntr Z0 z774)
 refine o_dup X774 j (dc24 12 rfl) rfl ?_
 refine o_aloadN X774 j (dc24 13 rfl) rfl rfl ?_
 refine o_getF X774 j (dc24 14 rfl) 93 rfl e774 (F0intVal.ext E774) fun T775 X775 e775 => ?_
 refine o_aloadN X775 j (dc24 15 rfl) rfl rfl ?_
 refine o_getF X775 j (dc24 16 rfl) 49 rfl e775 (F0intCompact.ext E774) fun T776 X776 e776 => ?_
 refine o_iloadN X776 j (dc24 17 rfl) rfl ?_
 refine o_iconstL X776 j (dc24 18 rfl) 0 ?_
 refine o_callSp X776 j (ct121 b774 o1 (0 : Int32) ((O_0.ext E774)) k A774 (F774_intCompact) (F774_intVal) (F774_precision) (F774_scale) l774 ((E_1.ext E774))) rfl rfl (pL4 rfl) (dc24 19 rfl) 78 79 81 34 ⟨rfl, rfl, rfl, rfl⟩ 1 e776 ?_
 rintro _ T777 L777 X777 ⟨rfl, M777, K777, P0777, P1777, P2777, P3777⟩
 have N777 := Fr.app N773 M777
 show oG p e b T777 m 43 #[sR a1, sI 9, sI 0, sU] [(.ref b774)] _
 refine o_astoreN X777 j (dc24 20 rfl) rfl (Ls' := #[sR a1, sI 9, sI 0, sR b774]) rfl ?_
 refine o_aloadN X777 j (dc24 21 rfl) rfl rfl ?_
 refine o_getF X777 j (dc24 22 rfl) 52 rfl rfl P3777 fun T778 X778 e778 => ?_
 refine o_ifYesD X778 j (dc24 23 rfl) 61 ?_
 refine o_aloadN X778 j (dc24 24 rfl) rfl rfl ?_
 exact o_retA X778 j (dc24 25 rfl) e778 ⟨b774, rfl, N777, (((Keep.refl h0 []).ext E774).trans K777 (allS (Or.inr z774) all0)), z774, (A774.keep K777), P0777, P1777, P2777, P3777⟩
theorem ct125 (a1 o1 : Addr) (O_0 : Old Z n0 h0) (k : own_K Z a0 g) (E_0 : Ee1 Z h0 a1) (F0intVal : Ff6 Z h0 a1 (.ref o1)) (E_1 : Ee0 Z h0 o1) :
 mM27 l ws (oR 0 0 0 0) #[(.ref a1)] Z h0 fun v h L => v = some (.ref o1) ∧ Fr n0 L ∧ h = h0 := by
 refine o_body own_pn27 k.1 (ef8 _) ?_
 intro p e s m b _ c T0 X0 j e0
 have N0 := Fr.nil n0
 have Z0 := own_Z0 O_0
 refine o_aloadN X0 j (dc27 0 rfl) rfl rfl ?_
 refine o_getF X0 j (dc27 1 rfl) 93 rfl e0 F0intVal fun T779 X779 e779 => ?_
 refine o_ifnonnullYes X779 j (dc27 2 rfl) 15 ?_
 refine o_aloadN X779 j (dc27 7 rfl) rfl rfl ?_
 refine o_getF X779 j (dc27 8 rfl) 93 rfl e779 F0intVal fun T780 X780 e780 => ?_
 exact o_retA X780 j (dc27 9 rfl) rfl ⟨rfl, N0, e780⟩
theorem ct126 (a1 o1 : Addr) (O_0 : Old Z n0 h0) (k : own_K Z a0 g) (E_0 : Ee1 Z h0 a1) (F0intVal : Ff6 Z h0 a1 (.ref o1)) (F0scale : Ff3 Z h0 a1 (.int 0)) (E_1 : Ee0 Z h0 o1) :
 mM25 l ws (oR 1 0 0 19) #[(.ref a1)] Z h0 fun v h L => v = some (.ref o1) ∧ Fr n0 L ∧ h = h0 := by
 refine o_body own_pn25 k.1 (ef8 _) ?_
 intro p e s m b _ c T0 X0 j e0
 have N0 := Fr.nil n0
 have Z0 := own_Z0 O_0
 refine o_aloadN X0 j (dc25 0 rfl) rfl rfl ?_
 refine o_iconstL X0 j (dc25 1 rfl) 0 ?_
 refine o_bipushL X0 j (dc25 2 rfl) 7 ?_
 refine o_callV X0 j (ct23 a1 O_0 k E_0 (F0scale)) rfl rfl (pL16 rfl) (dc25 3 rfl) 124 125 127 126 128 34 ⟨rfl, rfl, rfl, rfl, rfl, rfl⟩ E_0 0 e0 ?_
 rintro _ T781 L781 X781 ⟨rfl, M781, e781⟩
 have N781 := Fr.app N0 M781
 show oG p e b T781 m 7 #[sR a1] [(.ref a1)] _
 refine o_callPv X781 j (ct125 a1 o1 O_0 k E_0 (F0intVal) E_1) rfl rfl (pL17 rfl) (dc25 4 rfl) 129 131 132 130 133 34 ⟨rfl, rfl, rfl, rfl, rfl, rfl⟩ E_0 0 e781 ?_
 rintro _ T782 L782 X782 ⟨rfl, M782, e782⟩
 have N782 := Fr.app N781 M782
 show oG p e b T782 m 10 #[sR a1] [(.ref o1)] _
 exact o_retA X782 j (dc25 5 rfl) rfl ⟨rfl, N782, e782⟩
def H127 (x0 : Int32) (x1 : Int32) : Bool := (H107 x0 x1) && (decide (¬ (63 : Int32) < (D108_0 (R100_1 x0))) && ((H95 (D111_1 (R100_1 x0) (D100_3 x0 x1))) && true))
def R127_0 (x0 : Int32) (x1 : Int32) : Int64 := ((D111_1 (R100_1 x0) (D100_3 x0 x1)) + (0 : Int64))
theorem ct127 (a1 o1 o2 : Addr) (x0 x1 : Int32) (O_0 : Old Z n0 h0) (k : own_K Z a0 g) (E_0 : Ee1 Z h0 a1) (F0intCompact : Ff2 Z h0 a1 (.long (-9223372036854775808))) (F0intVal : Ff6 Z h0 a1 (.ref o1)) (F0scale : Ff3 Z h0 a1 (.int 9)) (E_1 : Ee0 Z h0 o1) (F1mag : Ff1 Z h0 o1 (.ref o2)) (F1signum : Ff0 Z h0 o1 (.int 1)) (A_2 : own_Ar Z h0 o2 .int [(.int x0), (.int x1)]) (hH : H127 x0 x1 = true) :
 mM23 l ws (oR 6 11 31 105) #[(.ref a1)] Z h0 fun v h L => ∃ (u0791 : Addr), v = some (.ref u0791) ∧ Fr n0 L ∧ Keep h0 h [] ∧ h0.size ≤ u0791 ∧ Ee2 Z h u0791 ∧ Ff5 Z h u0791 (.int 0) ∧ Ff4 Z h u0791 (.long (R127_0 x0 x1)) := by
 refine o_body own_pn23 k.1 (ef20 _) ?_
 intro p e s m b _ c T0 X0 j e0
 have N0 := Fr.nil n0
 have Z0 := own_Z0 O_0
 obtain ⟨hh0, q0⟩ := own_and hH
 obtain ⟨hh1, q1⟩ := o_ad q0
 obtain ⟨hh2, q2⟩ := own_and q1
 refine o_aloadN X0 j (dc23 0 rfl) rfl rfl ?_
 refine o_bipushL X0 j (dc23 1 rfl) 9 ?_
 refine o_callV X0 j (ct124 a1 o1 O_0 k E_0 (F0intCompact) (F0intVal) (F0scale) E_1) rfl rfl (pL1 rfl) (dc23 2 rfl) 114 115 117 116 118 34 ⟨rfl, rfl, rfl, rfl, rfl, rfl⟩ E_0 0 e0 ?_
 rintro _ T783 L783 X783 ⟨u0783, rfl, M783, K783, P0783, P1783, P2783, P3783, P4783, P5783⟩
 have N783 := Fr.app N0 M783
 have l783_0 := (ntr Z0 P0783)
 show oG p e b T783 m 6 #[sR a1, sU, sU] [(.ref u0783)] _
 refine o_callV X783 j (ct126 u0783 o1 ((O_0.keep K783 all0)) k P1783 P3783 P5783 ((E_1.keep K783))) rfl rfl (pL17 rfl) (dc23 3 rfl) 119 120 122 121 123 34 ⟨rfl, rfl, rfl, rfl, rfl, rfl⟩ P1783 0 rfl ?_
 rintro _ T784 L784 X784 ⟨rfl, M784, e784⟩
 have N784 := Fr.app N783 M784
 show oG p e b T784 m 9 #[sR a1, sU, sU] [(.ref o1)] _
 refine o_astoreN X784 j (dc23 4 rfl) rfl (Ls' := #[sR a1, sR o1, sU]) rfl ?_
 refine o_aloadN X784 j (dc23 5 rfl) rfl rfl ?_
 refine o_getS X784 j (dc23 6 rfl) 152 rfl e784 ((k4 k).ext ((O_0.keep K783 all0)).2) fun T785 X785 e785 => ?_
 refine o_callV X785 j (ct107 o1 (g 54) o2 (g 55) x0 x1 ((O_0.keep K783 all0)) k ((E_1.keep K783)) ((F1mag.keep K783 nin0)) ((F1signum.keep K783 nin0)) (((k30 k).ext ((O_0.keep K783 all0)).2)) (((k32 k).ext ((O_0.keep K783 all0)).2)) (((k31 k).ext ((O_0.keep K783 all0)).2)) ((A_2.keep K783 nin0)) (((k33 k).ext ((O_0.keep K783 all0)).2)) hh0) rfl rfl (pL30 rfl) (dc23 7 rfl) 153 154 156 155 157 136 ⟨rfl, rfl, rfl, rfl, rfl, rfl⟩ (E_1.keep K783) 0 e785 ?_
 rintro _ T786 L786 X786 ⟨u0786, u1786, u2786, rfl, M786, K786, P0786, P1786, P2786, P3786, P4786, P5786, P6786, P7786, P8786, P9786, P10786, P11786⟩
 have N786 := Fr.app N784 M786
 have l786_0 := (ntr Z0 (ntr K783.1 P0786))
 have l786_1 := (ntr Z0 (ntr K783.1 P1786))
 have l786_2 := (ntr Z0 (ntr K783.1 P2786))
 show oG p e b T786 m 17 #[sR a1, sR o1, sU] [(.ref u0786)] _
 refine o_astoreN X786 j (dc23 8 rfl) rfl (Ls' := #[sR a1, sR o1, sR u0786]) rfl ?_
 refine o_aloadN X786 j (dc23 9 rfl) rfl rfl ?_
 refine o_iconstL X786 j (dc23 10 rfl) 0 ?_
 refine o_aaload X786 j (dc23 11 rfl) rfl (P6786.ar) (.ref u1786) ?_
 refine o_callV X786 j (ct108 u1786 u2786 (R100_1 x0) (D100_3 x0 x1) (((O_0.keep K783 all0).keep K786 all0)) k P7786 P8786 P9786 P10786 l786_1 P11786) rfl rfl (pL31 rfl) (dc23 12 rfl) 255 256 258 257 259 136 ⟨rfl, rfl, rfl, rfl, rfl, rfl⟩ P7786 0 rfl ?_
 rintro _ T787 L787 X787 ⟨rfl, M787, K787, P0787, P1787, P2787⟩
 have N787 := Fr.app N786 M787
 show oG p e b T787 m 24 #[sR a1, sR o1, sR u0786] [(.int (D108_0 (R100_1 x0)))] _
 refine o_bipushL X787 j (dc23 13 rfl) 63 ?_
 refine o_icmpYes X787 j (dc23 14 rfl) 57 (flt hh1).2.2.2 ?_
 refine o_aloadN X787 j (dc23 15 rfl) rfl rfl ?_
 refine o_iconstL X787 j (dc23 16 rfl) 0 ?_
 refine o_aaload X787 j (dc23 17 rfl) rfl (((P6786.keep K787 (ninS (Ne.symm P3786) nin0))).ar) (.ref u1786) ?_
 have y788 := (((O_0.keep K783 all0).keep K786 all0).keep K787 (allS l786_1 all0))
 refine o_callV X787 j (ct111 u1786 u2786 (R100_1 x0) (D100_3 x0 x1) y788 k ((P7786.keep K787)) P1787 P2787 ((P11786.keep K787 (ninS P5786 nin0)))) rfl rfl (pL34 rfl) (dc23 18 rfl) 266 267 269 268 270 136 ⟨rfl, rfl, rfl, rfl, rfl, rfl⟩ (P7786.keep K787) 0 rfl ?_
 rintro _ T789 L789 X789 ⟨rfl, M789, e789⟩
 have N789 := Fr.app N787 M789
 show oG p e b T789 m 63 #[sR a1, sR o1, sR u0786] [(.long (D111_1 (R100_1 x0) (D100_3 x0 x1)))] _
 refine o_aloadN X789 j (dc23 19 rfl) rfl rfl ?_
 refine o_iconstL X789 j (dc23 20 rfl) 1 ?_
 refine o_aaload X789 j (dc23 21 rfl) e789 (((P6786.keep K787 (ninS (Ne.symm P3786) nin0))).ar) (.ref (g 0)) ?_
 refine o_callV X789 j (ct60 (g 0) (g 1) y788 k (((k7 k).ext y788.2)) (((k9 k).ext y788.2)) (((k8 k).ext y788.2)) (((k10 k).ext y788.2))) rfl rfl (pL31 rfl) (dc23 22 rfl) 282 283 285 284 286 136 ⟨rfl, rfl, rfl, rfl, rfl, rfl⟩ ((k7 k).ext y788.2) 2 e789 ?_
 rintro _ T790 L790 X790 ⟨rfl, M790, e790⟩
 have N790 := Fr.app N789 M790
 show oG p e b T790 m 69 #[sR a1, sR o1, sR u0786] [(.int 0), (.long (D111_1 (R100_1 x0) (D100_3 x0 x1)))] _
 refine o_i2lL X790 j (dc23 23 rfl) 0 ?_
 refine o_callS X790 j (ct95 (D111_1 (R100_1 x0) (D100_3 x0 x1)) y788 k hh2) rfl rfl (pL35 rfl) (dc23 24 rfl) 287 288 11 289 ⟨rfl, rfl, rfl, rfl⟩ 0 e790 ?_
 rintro _ T791 L791 X791 ⟨u0791, rfl, M791, K791, P0791, P1791, P2791, P3791⟩
 have N791 := Fr.app N790 M791
 have l791_0 := (ntr Z0 (ntr (ntr (ntr K783.1 K786.1) K787.1) P0791))
 show oG p e b T791 m 73 #[sR a1, sR o1, sR u0786] [(.ref u0791)] _
 exact o_retA X791 j (dc23 25 rfl) rfl ⟨u0791, rfl, N791, (((((Keep.refl h0 []).trans K783 all0).trans K786 all0).trans K787 (allS (Or.inr (ntr K783.1 P1786)) all0)).trans K791 all0), (ntr (ntr (ntr K783.1 K786.1) K787.1) P0791), P1791, P2791, P3791⟩
def H128 (x0 : Int64) : Bool := decide (¬ x0 = (0 : Int64)) && (decide (¬ x0 = (1 : Int64)) && ((H78 x0) && ((H123 x0) && ((H127 ((D120_3 x0).toInt32) ((D120_1 x0).toInt32)) && true))))
def R128_0 (x0 : Int64) : Int64 := (R127_0 ((D120_3 x0).toInt32) ((D120_1 x0).toInt32))
theorem ct128 (a1 : Addr) (x0 : Int64) (O_0 : Old Z n0 h0) (k : own_K Z a0 g) (E_0 : Ee2 Z h0 a1) (F0nanos : Ff5 Z h0 a1 (.int 0)) (F0seconds : Ff4 Z h0 a1 (.long 4)) (hH : H128 x0 = true) :
 mM2 l ws (oR 8 19 64 122) #[(.ref a1), (.long x0)] Z h0 fun v h L => ∃ (u0796 : Addr), v = some (.ref u0796) ∧ Fr n0 L ∧ Keep h0 h [] ∧ h0.size ≤ u0796 ∧ Ee2 Z h u0796 ∧ Ff5 Z h u0796 (.int 0) ∧ Ff4 Z h u0796 (.long (R128_0 x0)) := by
 refine o_body own_pn2 k.1 (ef1 _ _) ?_
 intro p e s m b _ c T0 X0 j e0
 have N0 := Fr.nil n0
 have Z0 := own_Z0 O_0
 obtain ⟨hh0, q0⟩ := o_ad hH
 obtain ⟨hh1, q1⟩ := o_ad q0
 obtain ⟨hh2, q2⟩ := own_and q1
 obtain ⟨hh3, q3⟩ := own_and q2
 obtain ⟨hh4, q4⟩ := own_and q3
 refine o_lloadN X0 j (dc2 0 rfl) rfl ?_
 refine o_lconstL X0 j (dc2 1 rfl) 0 ?_
 refine o_lcmp X0 j (dc2 2 rfl) ?_
 refine o_ifYes X0 j (dc2 3 rfl) 10 (feq (fun q => hh0 ((lw_eq x0 (0 : Int64)).mp q))).2 ?_
 refine o_lloadN X0 j (dc2 4 rfl) rfl ?_
 refine o_lconstL X0 j (dc2 5 rfl) 1 ?_
 refine o_lcmp X0 j (dc2 6 rfl) ?_
 refine o_ifYes X0 j (dc2 7 rfl) 18 (feq (fun q => hh1 ((lw_eq x0 (1 : Int64)).mp q))).2 ?_
 refine o_aloadN X0 j (dc2 10 rfl) rfl rfl ?_
 refine o_callPv X0 j (ct16 a1 O_0 k E_0 (F0nanos) (F0seconds)) rfl rfl (pL36 rfl) (dc2 11 rfl) 27 29 30 28 31 11 ⟨rfl, rfl, rfl, rfl, rfl, rfl⟩ E_0 0 e0 ?_
 rintro _ T792 L792 X792 ⟨u0792, rfl, M792, K792, P0792, P1792, P2792, P3792, P4792, P5792⟩
 have N792 := Fr.app N0 M792
 have l792_0 := (ntr Z0 P0792)
 show oG p e b T792 m 22 #[sR a1, sJ x0, s2] [(.ref u0792)] _
 refine o_lloadN X792 j (dc2 12 rfl) rfl ?_
 refine o_callS X792 j (ct78 x0 ((O_0.keep K792 all0)) k hh2) rfl rfl (pL11 rfl) (dc2 13 rfl) 32 33 34 35 ⟨rfl, rfl, rfl, rfl⟩ 1 rfl ?_
 rintro _ T793 L793 X793 ⟨u0793, rfl, M793, K793, P0793, P1793, P2793, P3793, P4793, P5793⟩
 have N793 := Fr.app N792 M793
 have l793_0 := (ntr Z0 (ntr K792.1 P0793))
 show oG p e b T793 m 26 #[sR a1, sJ x0, s2] [(.ref u0793), (.ref u0792)] _
 refine o_callV X793 j (ct123 u0792 u0793 x0 (((O_0.keep K792 all0).keep K793 all0)) k ((P1792.keep K793)) ((P2792.keep K793 nin0)) ((P5792.keep K793 nin0)) P1793 P2793 P5793 hh3) rfl rfl (pL12 rfl) (dc2 14 rfl) 95 96 98 97 99 34 ⟨rfl, rfl, rfl, rfl, rfl, rfl⟩ (P1792.keep K793) 0 rfl ?_
 rintro _ T794 L794 X794 ⟨u0794, u1794, u2794, rfl, M794, K794, P0794, P1794, P2794, P3794, P4794, P5794, P6794, P7794, P8794, P9794, P10794, P11794, P12794, P13794, P14794, P15794⟩
 have N794 := Fr.app N793 M794
 have l794_0 := (ntr Z0 (ntr (ntr K792.1 K793.1) P0794))
 have l794_1 := (ntr Z0 (ntr (ntr K792.1 K793.1) P1794))
 have l794_2 := (ntr Z0 (ntr (ntr K792.1 K793.1) P2794))
 show oG p e b T794 m 29 #[sR a1, sJ x0, s2] [(.ref u0794)] _
 have y795 := (((O_0.keep K792 all0).keep K793 all0).keep K794 all0)
 refine o_callS X794 j (ct127 u0794 u1794 u2794 ((D120_3 x0).toInt32) ((D120_1 x0).toInt32) y795 k P6794 P7794 P8794 P10794 P11794 P13794 P14794 P15794 hh4) rfl rfl (pL37 rfl) (dc2 15 rfl) 111 112 11 113 ⟨rfl, rfl, rfl, rfl⟩ 0 rfl ?_
 rintro _ T796 L796 X796 ⟨u0796, rfl, M796, K796, P0796, P1796, P2796, P3796⟩
 have N796 := Fr.app N794 M796
 have l796_0 := (ntr Z0 (ntr (ntr (ntr K792.1 K793.1) K794.1) P0796))
 show oG p e b T796 m 32 #[sR a1, sJ x0, s2] [(.ref u0796)] _
 exact o_retA X796 j (dc2 16 rfl) rfl ⟨u0796, rfl, N796, (((((Keep.refl h0 []).trans K792 all0).trans K793 all0).trans K794 all0).trans K796 all0), (ntr (ntr (ntr K792.1 K793.1) K794.1) P0796), P1796, P2796, P3796⟩
def H129 (x0 : Int32) : Bool := decide (¬ x0 < (1 : Int32)) && (decide (¬ (61 : Int32) < x0) && ((H128 ((1 : Int64) <<< ((x0 - (1 : Int32)) &&& 0x3f).toInt64)) && true))
def R129_0 (x0 : Int32) : Int64 := (R128_0 ((1 : Int64) <<< ((x0 - (1 : Int32)) &&& 0x3f).toInt64))
theorem ct129 (x0 : Int32) (O_0 : Old Z n0 h0) (k : own_K Z a0 g) (hH : H129 x0 = true) :
 mM1 l ws (oR 9 19 64 136) #[(.int x0)] Z h0 fun v h L => ∃ (u0798 : Addr), v = some (.ref u0798) ∧ Fr n0 L ∧ Keep h0 h [] ∧ h0.size ≤ u0798 ∧ Ee2 Z h u0798 ∧ Ff5 Z h u0798 (.int 0) ∧ Ff4 Z h u0798 (.long (R129_0 x0)) := by
 refine o_body own_pn1 k.1 (ef2 _) ?_
 intro p e s m b _ c T0 X0 j e0
 have N0 := Fr.nil n0
 have Z0 := own_Z0 O_0
 obtain ⟨hh0, q0⟩ := o_ad hH
 obtain ⟨hh1, q1⟩ := o_ad q0
 obtain ⟨hh2, q2⟩ := own_and q1
 refine o_iloadN X0 j (dc1 0 rfl) rfl ?_
 refine o_iconstL X0 j (dc1 1 rfl) 1 ?_
 refine o_icmpNo X0 j (dc1 2 rfl) (flt hh0).1 ?_
 refine o_iloadN X0 j (dc1 3 rfl) rfl ?_
 refine o_bipushL X0 j (dc1 4 rfl) 61 ?_
 refine o_icmpYes X0 j (dc1 5 rfl) 25 (flt hh1).2.2.2 ?_
 refine o_getS X0 j (dc1 6 rfl) 5 rfl e0 ((k6 k).ext O_0.2) fun T797 X797 e797 => ?_
 refine o_lconstL X797 j (dc1 7 rfl) 1 ?_
 refine o_iloadN X797 j (dc1 8 rfl) rfl ?_
 refine o_iconstL X797 j (dc1 9 rfl) 1 ?_
 refine o_isub X797 j (dc1 10 rfl) ?_
 refine o_lshl X797 j (dc1 11 rfl) ?_
 refine o_callV X797 j (ct128 (g 51) ((1 : Int64) <<< ((x0 - (1 : Int32)) &&& 0x3f).toInt64) O_0 k (((k25 k).ext O_0.2)) (((k27 k).ext O_0.2)) (((k26 k).ext O_0.2)) hh2) rfl rfl (pL0 rfl) (dc1 12 rfl) 7 8 10 9 12 11 ⟨rfl, rfl, rfl, rfl, rfl, rfl⟩ ((k25 k).ext O_0.2) 0 e797 ?_
 rintro _ T798 L798 X798 ⟨u0798, rfl, M798, K798, P0798, P1798, P2798, P3798⟩
 have N798 := Fr.app N0 M798
 have l798_0 := (ntr Z0 P0798)
 show oG p e b T798 m 36 #[sI x0] [(.ref u0798)] _
 exact o_retA X798 j (dc1 13 rfl) rfl ⟨u0798, rfl, N798, ((Keep.refl h0 []).trans K798 all0), P0798, P1798, P2798, P3798⟩
theorem ct130 (a1 a2 : Addr) (x0 x1 x2 : Int32) (O_0 : Old Z n0 h0) (k : own_K Z a0 g) (E_0 : Ee0 Z h0 a1) (F0bitLengthPlusOne : Ff8 Z h0 a1 (.int 0)) (F0mag : Ff1 Z h0 a1 .null) (F0signum : Ff0 Z h0 a1 (.int 0)) (G_0 : n0 ≤ a1) (A_1 : own_Ar Z h0 a2 .int [(.int x0), (.int x1), (.int x2)]) (ne_0_1 : a1 ≠ a2) :
 mM48 l ws (oR 2 0 0 24) #[(.ref a1), (.ref a2), (.int 1)] Z h0 fun v h L => v = none ∧ Fr n0 L ∧ Keep h0 h [a1] ∧ Ff8 Z h a1 (.int 0) ∧ Ff1 Z h a1 (.ref a2) ∧ Ff0 Z h a1 (.int 1) := by
 refine o_body own_pn48 k.1 (ef29 _ _ _) ?_
 intro p e s m b _ c T0 X0 j e0
 have N0 := Fr.nil n0
 have Z0 := own_Z0 O_0
 refine o_aloadN X0 j (dc48 0 rfl) rfl rfl ?_
 refine o_callSp X0 j (ct25 a1 O_0 k E_0) rfl rfl (pL3 rfl) (dc48 1 rfl) 145 83 87 86 ⟨rfl, rfl, rfl, rfl⟩ 0 e0 ?_
 rintro _ T799 L799 X799 ⟨rfl, M799, e799⟩
 have N799 := Fr.app N0 M799
 show oG p e b T799 m 4 #[sR a1, sR a2, sI 1] [] _
 refine o_aloadN X799 j (dc48 2 rfl) rfl rfl ?_
 refine o_aloadN X799 j (dc48 3 rfl) rfl rfl ?_
 refine o_len X799 j (dc48 4 rfl) e799 A_1 3 ?_
 refine o_ifYesD X799 j (dc48 5 rfl) 14 ?_
 refine o_iloadN X799 j (dc48 6 rfl) rfl ?_
 refine o_putf X799 j (dc48 7 rfl) 147 148 140 ⟨rfl, rfl, rfl⟩ .int e799 F0signum E_0 fun T800 h800 X800 e800 W800 => ?_
 have F800 := (F0signum).same W800
 have N800 := Fr.snoc X800 N799 G_0
 refine o_aloadN X800 j (dc48 8 rfl) rfl rfl ?_
 refine o_aloadN X800 j (dc48 9 rfl) rfl rfl ?_
 have y802 := (F0mag.other W800 (Or.inr (sn12 k)))
 refine o_putf X800 j (dc48 10 rfl) 150 151 140 ⟨rfl, rfl, rfl⟩ (.array .int) e800 y802 (E_0.wr W800) fun T801 h801 X801 e801 W801 => ?_
 have F801 := y802.same W801
 have N801 := Fr.snoc X801 N800 G_0
 refine o_aloadN X801 j (dc48 11 rfl) rfl rfl ?_
 refine o_getF X801 j (dc48 12 rfl) 150 rfl e801 F801 fun T803 X803 e803 => ?_
 have y804 := ((A_1.other W800 (Ne.symm ne_0_1)).other W801 (Ne.symm ne_0_1))
 refine o_len X803 j (dc48 13 rfl) e803 y804 3 ?_
 refine o_ldc X803 j (dc48 14 rfl) 253 rfl ?_
 refine o_icmpYesD X803 j (dc48 15 rfl) 37 ?_
 have y805 := ((F0bitLengthPlusOne.other W800 (Or.inr (sn13 k))).other W801 (Or.inr (sn14 k)))
 have y806 := (F800.other W801 (Or.inr (sn15 k)))
 exact o_retV X803 j (dc48 16 rfl) e803 ⟨rfl, N801, (((Keep.refl h0 [a1]).wr W800 (mI 0 rfl)).wr W801 (mI 0 rfl)), y805, F801, y806⟩
def D131_0 (x0 : Int64) : Int64 := ((x0.toUInt64 >>> ((32 : Int32) &&& 0x3f).toInt64.toUInt64).toInt64)
def D131_1 (x0 : Int64) : Int64 := (((4000000000 : Int64) * (x0 &&& (4294967295 : Int64))) + (0 : Int64))
def D131_2 (x0 : Int64) : Int64 := (((D131_1 x0).toUInt64 >>> ((32 : Int32) &&& 0x3f).toInt64.toUInt64).toInt64)
def D131_3 (x0 : Int64) : Int64 := ((((4000000000 : Int64) * (D131_0 x0)) + ((((D131_2 x0).toInt32).toInt64) &&& (4294967295 : Int64))) + (0 : Int64))
def D131_4 (x0 : Int64) : Int64 := (((D131_3 x0).toUInt64 >>> ((32 : Int32) &&& 0x3f).toInt64.toUInt64).toInt64)
def H131 (x0 : Int64) : Bool := decide (¬ x0 = (0 : Int64)) && (decide (¬ x0 = (-9223372036854775808 : Int64)) && (decide ((0 : Int64) < x0) && (decide (¬ x0 < (0 : Int64)) && (decide (¬ (D131_0 x0) = (0 : Int64)) && (decide (¬ (D131_4 x0) = (0 : Int64)) && true)))))
theorem ct131 (a1 : Addr) (x0 : Int64) (o1 : Addr) (O_0 : Old Z n0 h0) (k : own_K Z a0 g) (E_0 : Ee0 Z h0 a1) (F0mag : Ff1 Z h0 a1 (.ref o1)) (F0signum : Ff0 Z h0 a1 (.int 1)) (A_1 : own_Ar Z h0 o1 .int [(.int (-294967296))]) (hH : H131 x0 = true) :
 mM61 l ws (oR 3 2 9 39) #[(.ref a1), (.long x0)] Z h0 fun v h L => ∃ (b818 : Addr) (b811 : Addr), v = some (.ref b818) ∧ Fr n0 L ∧ Keep h0 h [] ∧ h0.size ≤ b818 ∧ h0.size ≤ b811 ∧ b811 ≠ b818 ∧ Ee0 Z h b818 ∧ Ff8 Z h b818 (.int 0) ∧ Ff1 Z h b818 (.ref b811) ∧ Ff0 Z h b818 (.int 1) ∧ own_Ar Z h b811 .int [(.int ((D131_4 x0).toInt32)), (.int ((D131_3 x0).toInt32)), (.int ((D131_1 x0).toInt32))] := by
 refine o_body own_pn61 k.1 (ef36 _ _) ?_
 intro p e s m b _ c T0 X0 j e0
 have N0 := Fr.nil n0
 have Z0 := own_Z0 O_0
 obtain ⟨hh0, q0⟩ := o_ad hH
 obtain ⟨hh1, q1⟩ := o_ad q0
 obtain ⟨hh2, q2⟩ := o_ad q1
 obtain ⟨hh3, q3⟩ := o_ad q2
 obtain ⟨hh4, q4⟩ := o_ad q3
 obtain ⟨hh5, q5⟩ := o_ad q4
 refine o_lloadN X0 j (dc61 0 rfl) rfl ?_
 refine o_lconstL X0 j (dc61 1 rfl) 0 ?_
 refine o_lcmp X0 j (dc61 2 rfl) ?_
 refine o_ifNo X0 j (dc61 3 rfl) (feq (fun q => hh0 ((lw_eq x0 (0 : Int64)).mp q))).1 ?_
 refine o_aloadN X0 j (dc61 4 rfl) rfl rfl ?_
 refine o_getF X0 j (dc61 5 rfl) 147 rfl e0 F0signum fun T807 X807 e807 => ?_
 refine o_ifYesD X807 j (dc61 6 rfl) 17 ?_
 refine o_lloadN X807 j (dc61 7 rfl) rfl ?_
 refine o_ldc2 X807 j (dc61 8 rfl) 315 rfl ?_
 refine o_lcmp X807 j (dc61 9 rfl) ?_
 refine o_ifYes X807 j (dc61 10 rfl) 34 (feq (fun q => hh1 ((lw_eq x0 (-9223372036854775808 : Int64)).mp q))).2 ?_
 refine o_lloadN X807 j (dc61 11 rfl) rfl ?_
 refine o_lconstL X807 j (dc61 12 rfl) 0 ?_
 refine o_lcmp X807 j (dc61 13 rfl) ?_
 refine o_ifNo X807 j (dc61 14 rfl) (tlt ((lw_gt x0 (0 : Int64)).mpr hh2)).2.2.2 ?_
 refine o_aloadN X807 j (dc61 15 rfl) rfl rfl ?_
 refine o_getF X807 j (dc61 16 rfl) 147 rfl e807 F0signum fun T808 X808 e808 => ?_
 refine o_goto X808 j (dc61 17 rfl) 52 ?_
 refine o_istoreN X808 j (dc61 18 rfl) (Ls' := #[sR a1, sJ x0, s2, sI 1, sU, sU, sU, sU, sU, sU, sU, sU, sU, sU, sU, sU, sU]) rfl ?_
 refine o_lloadN X808 j (dc61 19 rfl) rfl ?_
 refine o_lconstL X808 j (dc61 20 rfl) 0 ?_
 refine o_lcmp X808 j (dc61 21 rfl) ?_
 refine o_ifYes X808 j (dc61 22 rfl) 62 (flt (fun q => hh3 ((lw_lt x0 (0 : Int64)).mp q))).2.1 ?_
 refine o_lloadN X808 j (dc61 23 rfl) rfl ?_
 refine o_bipushL X808 j (dc61 24 rfl) 32 ?_
 refine o_lushr X808 j (dc61 25 rfl) ?_
 refine o_lstore X808 j (dc61 26 rfl) (Ls' := #[sR a1, sJ x0, s2, sI 1, sJ (D131_0 x0), s2, sU, sU, sU, sU, sU, sU, sU, sU, sU, sU, sU]) rfl ?_
 refine o_lloadN X808 j (dc61 27 rfl) rfl ?_
 refine o_ldc2 X808 j (dc61 28 rfl) 281 rfl ?_
 refine o_land X808 j (dc61 29 rfl) ?_
 refine o_lstore X808 j (dc61 30 rfl) (Ls' := #[sR a1, sJ x0, s2, sI 1, sJ (D131_0 x0), s2, sJ (x0 &&& (4294967295 : Int64)), s2, sU, sU, sU, sU, sU, sU, sU, sU, sU]) rfl ?_
 refine o_aloadN X808 j (dc61 31 rfl) rfl rfl ?_
 refine o_getF X808 j (dc61 32 rfl) 150 rfl e808 F0mag fun T809 X809 e809 => ?_
 refine o_len X809 j (dc61 33 rfl) e809 A_1 1 ?_
 refine o_istore X809 j (dc61 34 rfl) (Ls' := #[sR a1, sJ x0, s2, sI 1, sJ (D131_0 x0), s2, sJ (x0 &&& (4294967295 : Int64)), s2, sI 1, sU, sU, sU, sU, sU, sU, sU, sU]) rfl ?_
 refine o_aloadN X809 j (dc61 35 rfl) rfl rfl ?_
 refine o_getF X809 j (dc61 36 rfl) 150 rfl e809 F0mag fun T810 X810 e810 => ?_
 refine o_astore X810 j (dc61 37 rfl) rfl (Ls' := #[sR a1, sJ x0, s2, sI 1, sJ (D131_0 x0), s2, sJ (x0 &&& (4294967295 : Int64)), s2, sI 1, sR o1, sU, sU, sU, sU, sU, sU, sU]) rfl ?_
 refine o_lload X810 j (dc61 38 rfl) rfl ?_
 refine o_lconstL X810 j (dc61 39 rfl) 0 ?_
 refine o_lcmp X810 j (dc61 40 rfl) ?_
 refine o_ifYes X810 j (dc61 41 rfl) 104 (feq (fun q => hh4 ((lw_eq (D131_0 x0) (0 : Int64)).mp q))).2 ?_
 refine o_iload X810 j (dc61 42 rfl) rfl ?_
 refine o_iconstL X810 j (dc61 43 rfl) 2 ?_
 refine o_iaddL X810 j (dc61 44 rfl) 3 ?_
 refine o_newA X810 j (dc61 45 rfl) 149 rfl e810 3 [(.int 0), (.int 0), (.int 0)] fun T811 h811 b811 X811 e811 g811 E811 A811 => ?_
 have z811 := ntr (Nat.le_refl _) (nqs g811)
 have l811 := (ntr Z0 z811)
 refine o_astore X811 j (dc61 46 rfl) rfl (Ls' := #[sR a1, sJ x0, s2, sI 1, sJ (D131_0 x0), s2, sJ (x0 &&& (4294967295 : Int64)), s2, sI 1, sR o1, sR b811, sU, sU, sU, sU, sU, sU]) rfl ?_
 refine o_lconstL X811 j (dc61 47 rfl) 0 ?_
 refine o_lstore X811 j (dc61 48 rfl) (Ls' := #[sR a1, sJ x0, s2, sI 1, sJ (D131_0 x0), s2, sJ (x0 &&& (4294967295 : Int64)), s2, sI 1, sR o1, sR b811, sJ 0, s2, sU, sU, sU, sU]) rfl ?_
 refine o_aload X811 j (dc61 49 rfl) rfl rfl ?_
 refine o_len X811 j (dc61 50 rfl) e811 A811 3 ?_
 refine o_iconstL X811 j (dc61 51 rfl) 1 ?_
 refine o_isubL X811 j (dc61 52 rfl) 2 ?_
 refine o_istore X811 j (dc61 53 rfl) (Ls' := #[sR a1, sJ x0, s2, sI 1, sJ (D131_0 x0), s2, sJ (x0 &&& (4294967295 : Int64)), s2, sI 1, sR o1, sR b811, sJ 0, s2, sI 2, sU, sU, sU]) rfl ?_
 refine o_iload X811 j (dc61 54 rfl) rfl ?_
 refine o_iconstL X811 j (dc61 55 rfl) 1 ?_
 refine o_isubL X811 j (dc61 56 rfl) 0 ?_
 refine o_istore X811 j (dc61 57 rfl) (Ls' := #[sR a1, sJ x0, s2, sI 1, sJ (D131_0 x0), s2, sJ (x0 &&& (4294967295 : Int64)), s2, sI 1, sR o1, sR b811, sJ 0, s2, sI 2, sI 0, sU, sU]) rfl ?_
 refine o_iload X811 j (dc61 58 rfl) rfl ?_
 refine o_ifNoD X811 j (dc61 59 rfl) ?_
 refine o_aload X811 j (dc61 60 rfl) rfl rfl ?_
 refine o_iload X811 j (dc61 61 rfl) rfl ?_
 refine o_iaload X811 j (dc61 62 rfl) e811 ((A_1.ext E811)) (.int (-294967296)) ?_
 refine o_i2lL X811 j (dc61 63 rfl) (-294967296) ?_
 refine o_ldc2 X811 j (dc61 64 rfl) 281 rfl ?_
 refine o_landL X811 j (dc61 65 rfl) 4000000000 ?_
 refine o_lload X811 j (dc61 66 rfl) rfl ?_
 refine o_lmul X811 j (dc61 67 rfl) ?_
 refine o_lload X811 j (dc61 68 rfl) rfl ?_
 refine o_ladd X811 j (dc61 69 rfl) ?_
 refine o_lstore X811 j (dc61 70 rfl) (Ls' := #[sR a1, sJ x0, s2, sI 1, sJ (D131_0 x0), s2, sJ (x0 &&& (4294967295 : Int64)), s2, sI 1, sR o1, sR b811, sJ 0, s2, sI 2, sI 0, sJ (D131_1 x0), s2]) rfl ?_
 refine o_aload X811 j (dc61 71 rfl) rfl rfl ?_
 refine o_iload X811 j (dc61 72 rfl) rfl ?_
 refine o_iinc X811 j (dc61 73 rfl) rfl (z := 1) (by decide) (Ls' := #[sR a1, sJ x0, s2, sI 1, sJ (D131_0 x0), s2, sJ (x0 &&& (4294967295 : Int64)), s2, sI 1, sR o1, sR b811, sJ 0, s2, sI 1, sI 0, sJ (D131_1 x0), s2]) rfl ?_
 refine o_lload X811 j (dc61 74 rfl) rfl ?_
 refine o_l2i X811 j (dc61 75 rfl) ?_
 refine o_iastore X811 j (dc61 76 rfl) e811 A811 (.int 0) fun T812 h812 X812 e812 W812 A812 => ?_
 have B812 : own_Ar Z h812 b811 .int [(.int 0), (.int 0), (.int ((D131_1 x0).toInt32))] := A812
 have N812 := Fr.snoc X812 N0 l811
 refine o_lload X812 j (dc61 77 rfl) rfl ?_
 refine o_bipushL X812 j (dc61 78 rfl) 32 ?_
 refine o_lushr X812 j (dc61 79 rfl) ?_
 refine o_lstore X812 j (dc61 80 rfl) (Ls' := #[sR a1, sJ x0, s2, sI 1, sJ (D131_0 x0), s2, sJ (x0 &&& (4294967295 : Int64)), s2, sI 1, sR o1, sR b811, sJ (D131_2 x0), s2, sI 1, sI 0, sJ (D131_1 x0), s2]) rfl ?_
 refine o_iinc X812 j (dc61 81 rfl) rfl (z := -1) (by decide) (Ls' := #[sR a1, sJ x0, s2, sI 1, sJ (D131_0 x0), s2, sJ (x0 &&& (4294967295 : Int64)), s2, sI 1, sR o1, sR b811, sJ (D131_2 x0), s2, sI 1, sI (-1), sJ (D131_1 x0), s2]) rfl ?_
 refine o_goto X812 j (dc61 82 rfl) 128 ?_
 refine o_iload X812 j (dc61 58 rfl) rfl ?_
 refine o_ifYesD X812 j (dc61 59 rfl) 175 ?_
 refine o_aload X812 j (dc61 83 rfl) rfl rfl ?_
 refine o_iload X812 j (dc61 84 rfl) rfl ?_
 refine o_lload X812 j (dc61 85 rfl) rfl ?_
 refine o_l2i X812 j (dc61 86 rfl) ?_
 refine o_iastore X812 j (dc61 87 rfl) e812 B812 (.int 0) fun T813 h813 X813 e813 W813 A813 => ?_
 have B813 : own_Ar Z h813 b811 .int [(.int 0), (.int ((D131_2 x0).toInt32)), (.int ((D131_1 x0).toInt32))] := A813
 have N813 := Fr.snoc X813 N812 l811
 refine o_lload X813 j (dc61 88 rfl) rfl ?_
 refine o_lconstL X813 j (dc61 89 rfl) 0 ?_
 refine o_lcmp X813 j (dc61 90 rfl) ?_
 refine o_ifNo X813 j (dc61 91 rfl) (feq (fun q => hh4 ((lw_eq (D131_0 x0) (0 : Int64)).mp q))).1 ?_
 refine o_lconstL X813 j (dc61 92 rfl) 0 ?_
 refine o_lstore X813 j (dc61 93 rfl) (Ls' := #[sR a1, sJ x0, s2, sI 1, sJ (D131_0 x0), s2, sJ (x0 &&& (4294967295 : Int64)), s2, sI 1, sR o1, sR b811, sJ 0, s2, sI 1, sI (-1), sJ (D131_1 x0), s2]) rfl ?_
 refine o_aload X813 j (dc61 94 rfl) rfl rfl ?_
 refine o_len X813 j (dc61 95 rfl) e813 B813 3 ?_
 refine o_iconstL X813 j (dc61 96 rfl) 2 ?_
 refine o_isubL X813 j (dc61 97 rfl) 1 ?_
 refine o_istore X813 j (dc61 98 rfl) (Ls' := #[sR a1, sJ x0, s2, sI 1, sJ (D131_0 x0), s2, sJ (x0 &&& (4294967295 : Int64)), s2, sI 1, sR o1, sR b811, sJ 0, s2, sI 1, sI (-1), sJ (D131_1 x0), s2]) rfl ?_
 refine o_iload X813 j (dc61 99 rfl) rfl ?_
 refine o_iconstL X813 j (dc61 100 rfl) 1 ?_
 refine o_isubL X813 j (dc61 101 rfl) 0 ?_
 refine o_istore X813 j (dc61 102 rfl) (Ls' := #[sR a1, sJ x0, s2, sI 1, sJ (D131_0 x0), s2, sJ (x0 &&& (4294967295 : Int64)), s2, sI 1, sR o1, sR b811, sJ 0, s2, sI 1, sI 0, sJ (D131_1 x0), s2]) rfl ?_
 refine o_iload X813 j (dc61 103 rfl) rfl ?_
 refine o_ifNoD X813 j (dc61 104 rfl) ?_
 refine o_aload X813 j (dc61 105 rfl) rfl rfl ?_
 refine o_iload X813 j (dc61 106 rfl) rfl ?_
 have d814 := (nne (nlt A_1.lt (nqs g811)))
 have y815 := (((A_1.ext E811).other W812 d814).other W813 d814)
 refine o_iaload X813 j (dc61 107 rfl) e813 y815 (.int (-294967296)) ?_
 refine o_i2lL X813 j (dc61 108 rfl) (-294967296) ?_
 refine o_ldc2 X813 j (dc61 109 rfl) 281 rfl ?_
 refine o_landL X813 j (dc61 110 rfl) 4000000000 ?_
 refine o_lload X813 j (dc61 111 rfl) rfl ?_
 refine o_lmul X813 j (dc61 112 rfl) ?_
 refine o_aload X813 j (dc61 113 rfl) rfl rfl ?_
 refine o_iload X813 j (dc61 114 rfl) rfl ?_
 refine o_iaload X813 j (dc61 115 rfl) e813 B813 (.int ((D131_2 x0).toInt32)) ?_
 refine o_i2l X813 j (dc61 116 rfl) ?_
 refine o_ldc2 X813 j (dc61 117 rfl) 281 rfl ?_
 refine o_land X813 j (dc61 118 rfl) ?_
 refine o_ladd X813 j (dc61 119 rfl) ?_
 refine o_lload X813 j (dc61 120 rfl) rfl ?_
 refine o_ladd X813 j (dc61 121 rfl) ?_
 refine o_lstore X813 j (dc61 122 rfl) (Ls' := #[sR a1, sJ x0, s2, sI 1, sJ (D131_0 x0), s2, sJ (x0 &&& (4294967295 : Int64)), s2, sI 1, sR o1, sR b811, sJ 0, s2, sI 1, sI 0, sJ (D131_3 x0), s2]) rfl ?_
 refine o_aload X813 j (dc61 123 rfl) rfl rfl ?_
 refine o_iload X813 j (dc61 124 rfl) rfl ?_
 refine o_iinc X813 j (dc61 125 rfl) rfl (z := 0) (by decide) (Ls' := #[sR a1, sJ x0, s2, sI 1, sJ (D131_0 x0), s2, sJ (x0 &&& (4294967295 : Int64)), s2, sI 1, sR o1, sR b811, sJ 0, s2, sI 0, sI 0, sJ (D131_3 x0), s2]) rfl ?_
 refine o_lload X813 j (dc61 126 rfl) rfl ?_
 refine o_l2i X813 j (dc61 127 rfl) ?_
 refine o_iastore X813 j (dc61 128 rfl) e813 B813 (.int ((D131_2 x0).toInt32)) fun T816 h816 X816 e816 W816 A816 => ?_
 have B816 : own_Ar Z h816 b811 .int [(.int 0), (.int ((D131_3 x0).toInt32)), (.int ((D131_1 x0).toInt32))] := A816
 have N816 := Fr.snoc X816 N813 l811
 refine o_lload X816 j (dc61 129 rfl) rfl ?_
 refine o_bipushL X816 j (dc61 130 rfl) 32 ?_
 refine o_lushr X816 j (dc61 131 rfl) ?_
 refine o_lstore X816 j (dc61 132 rfl) (Ls' := #[sR a1, sJ x0, s2, sI 1, sJ (D131_0 x0), s2, sJ (x0 &&& (4294967295 : Int64)), s2, sI 1, sR o1, sR b811, sJ (D131_4 x0), s2, sI 0, sI 0, sJ (D131_3 x0), s2]) rfl ?_
 refine o_iinc X816 j (dc61 133 rfl) rfl (z := -1) (by decide) (Ls' := #[sR a1, sJ x0, s2, sI 1, sJ (D131_0 x0), s2, sJ (x0 &&& (4294967295 : Int64)), s2, sI 1, sR o1, sR b811, sJ (D131_4 x0), s2, sI 0, sI (-1), sJ (D131_3 x0), s2]) rfl ?_
 refine o_goto X816 j (dc61 134 rfl) 206 ?_
 refine o_iload X816 j (dc61 103 rfl) rfl ?_
 refine o_ifYesD X816 j (dc61 104 rfl) 264 ?_
 refine o_aload X816 j (dc61 135 rfl) rfl rfl ?_
 refine o_iconstL X816 j (dc61 136 rfl) 0 ?_
 refine o_lload X816 j (dc61 137 rfl) rfl ?_
 refine o_l2i X816 j (dc61 138 rfl) ?_
 refine o_iastore X816 j (dc61 139 rfl) e816 B816 (.int 0) fun T817 h817 X817 e817 W817 A817 => ?_
 have B817 : own_Ar Z h817 b811 .int [(.int ((D131_4 x0).toInt32)), (.int ((D131_3 x0).toInt32)), (.int ((D131_1 x0).toInt32))] := A817
 have N817 := Fr.snoc X817 N816 l811
 refine o_lload X817 j (dc61 140 rfl) rfl ?_
 refine o_lconstL X817 j (dc61 141 rfl) 0 ?_
 refine o_lcmp X817 j (dc61 142 rfl) ?_
 refine o_ifYes X817 j (dc61 143 rfl) 289 (feq (fun q => hh5 ((lw_eq (D131_4 x0) (0 : Int64)).mp q))).2 ?_
 refine o_new X817 j (dc61 150 rfl) 139 140 136 ⟨rfl, rfl, rfl⟩ e817 fun T818 h818 b818 X818 e818 g818 E818 A818 D818 => ?_
 have F818_signum : Ff0 Z h818 b818 (.int 0) := D818 (Or.inr (ot k 148 rfl)) (ty := .int) (by decide)
 have F818_mag : Ff1 Z h818 b818 .null := D818 (Or.inr (ot k 151 rfl)) (ty := (.array .int)) (by decide)
 have F818_bitLengthPlusOne : Ff8 Z h818 b818 (.int 0) := D818 (Or.inl (ot k 261 rfl)) (ty := .int) (by decide)
 have z818 := ntr (ntr (ntr (ntr (ntr E811.1 (nqs (Wr.size W812))) (nqs (Wr.size W813))) (nqs (Wr.size W816))) (nqs (Wr.size W817))) (nqs g818)
 have l818 := (ntr Z0 z818)
 refine o_dup X818 j (dc61 151 rfl) rfl ?_
 refine o_aload X818 j (dc61 152 rfl) rfl rfl ?_
 refine o_iloadN X818 j (dc61 153 rfl) rfl ?_
 have y819 := ((((((O_0.ext E811).wr W812 l811).wr W813 l811).wr W816 l811).wr W817 l811).ext E818)
 have d820 := (nne (nlt B817.lt (nqs g818)))
 have d821 := (Ne.symm d820)
 refine o_callSp X818 j (ct130 b818 b811 ((D131_4 x0).toInt32) ((D131_3 x0).toInt32) ((D131_1 x0).toInt32) y819 k A818 (F818_bitLengthPlusOne) (F818_mag) (F818_signum) l818 ((B817.ext E818)) d821) rfl rfl (pL25 rfl) (dc61 154 rfl) 316 251 252 136 ⟨rfl, rfl, rfl, rfl⟩ 1 e818 ?_
 rintro _ T822 L822 X822 ⟨rfl, M822, K822, P0822, P1822, P2822⟩
 have N822 := Fr.app N817 M822
 show oG p e b T822 m 299 #[sR a1, sJ x0, s2, sI 1, sJ (D131_0 x0), s2, sJ (x0 &&& (4294967295 : Int64)), s2, sI 1, sR o1, sR b811, sJ (D131_4 x0), s2, sI 0, sI (-1), sJ (D131_3 x0), s2] [(.ref b818)] _
 exact o_retA X822 j (dc61 155 rfl) rfl ⟨b818, b811, rfl, N822, ((((((((Keep.refl h0 []).ext E811).wr W812 (Or.inr z811)).wr W813 (Or.inr z811)).wr W816 (Or.inr z811)).wr W817 (Or.inr z811)).ext E818).trans K822 (allS (Or.inr z818) all0)), z818, z811, d820, (A818.keep K822), P0822, P1822, P2822, ((B817.ext E818).keep K822 (ninS d820 nin0))⟩
def H132 (x0 : Int64) : Bool := (H115 x0) && ((H131 x0) && true)
theorem ct132 (x0 : Int64) (O_0 : Old Z n0 h0) (k : own_K Z a0 g) (hH : H132 x0 = true) :
 mM21 l ws (oR 4 5 21 69) #[(.long 4000000000), (.long x0), (.int 9)] Z h0 fun v h L => ∃ (b824 : Addr) (u0826 : Addr) (u1826 : Addr), v = some (.ref b824) ∧ Fr n0 L ∧ Keep h0 h [] ∧ h0.size ≤ b824 ∧ h0.size ≤ u0826 ∧ h0.size ≤ u1826 ∧ u0826 ≠ b824 ∧ u1826 ≠ b824 ∧ u1826 ≠ u0826 ∧ Ee1 Z h b824 ∧ Ff2 Z h b824 (.long (-9223372036854775808)) ∧ Ff6 Z h b824 (.ref u0826) ∧ Ff7 Z h b824 (.int 0) ∧ Ff3 Z h b824 (.int 9) ∧ Ee0 Z h u0826 ∧ Ff8 Z h u0826 (.int 0) ∧ Ff1 Z h u0826 (.ref u1826) ∧ Ff0 Z h u0826 (.int 1) ∧ own_Ar Z h u1826 .int [(.int ((D131_4 x0).toInt32)), (.int ((D131_3 x0).toInt32)), (.int ((D131_1 x0).toInt32))] := by
 refine o_body own_pn21 k.1 (ef10 _ _ _) ?_
 intro p e s m b _ c T0 X0 j e0
 have N0 := Fr.nil n0
 have Z0 := own_Z0 O_0
 obtain ⟨hh0, q0⟩ := own_and hH
 obtain ⟨hh1, q1⟩ := own_and q0
 refine o_lloadN X0 j (dc21 0 rfl) rfl ?_
 refine o_lloadN X0 j (dc21 1 rfl) rfl ?_
 refine o_callS X0 j (ct115 x0 O_0 k hh0) rfl rfl (pL5 rfl) (dc21 2 rfl) 108 109 34 110 ⟨rfl, rfl, rfl, rfl⟩ 0 e0 ?_
 rintro _ T823 L823 X823 ⟨rfl, M823, e823⟩
 have N823 := Fr.app N0 M823
 show oG p e b T823 m 5 #[sJ 4000000000, s2, sJ x0, s2, sI 9, sU, sU] [(.long (-9223372036854775808))] _
 refine o_lstore X823 j (dc21 3 rfl) (Ls' := #[sJ 4000000000, s2, sJ x0, s2, sI 9, sJ (-9223372036854775808), s2]) rfl ?_
 refine o_lload X823 j (dc21 4 rfl) rfl ?_
 refine o_ldc2 X823 j (dc21 5 rfl) 51 rfl ?_
 refine o_lcmp X823 j (dc21 6 rfl) ?_
 refine o_ifYes X823 j (dc21 7 rfl) 24 (teq ((lw_eq (-9223372036854775808 : Int64) (-9223372036854775808 : Int64)).mpr rfl)).1 ?_
 refine o_new X823 j (dc21 12 rfl) 76 77 34 ⟨rfl, rfl, rfl⟩ e823 fun T824 h824 b824 X824 e824 g824 E824 A824 D824 => ?_
 have F824_intCompact : Ff2 Z h824 b824 (.long 0) := D824 (Or.inr (ot k 50 rfl)) (ty := .long) (by decide)
 have F824_scale : Ff3 Z h824 b824 (.int 0) := D824 (Or.inr (ot k 53 rfl)) (ty := .int) (by decide)
 have F824_precision : Ff7 Z h824 b824 (.int 0) := D824 (Or.inl (ot k 92 rfl)) (ty := .int) (by decide)
 have F824_intVal : Ff6 Z h824 b824 .null := D824 (Or.inr (ot k 94 rfl)) (ty := (.object "java/math/BigInteger")) (by decide)
 have z824 := ntr (Nat.le_refl _) (nqs g824)
 have l824 := (ntr Z0 z824)
 refine o_dup X824 j (dc21 13 rfl) rfl ?_
 refine o_lloadN X824 j (dc21 14 rfl) rfl ?_
 refine o_callS X824 j (ct117 ((O_0.ext E824)) k (by decide)) rfl rfl (pL15 rfl) (dc21 15 rfl) 134 135 136 137 ⟨rfl, rfl, rfl, rfl⟩ 2 e824 ?_
 rintro _ T825 L825 X825 ⟨u0825, u1825, rfl, M825, K825, P0825, P1825, P2825, P3825, P4825, P5825, P6825, P7825⟩
 have N825 := Fr.app N823 M825
 have l825_0 := (ntr Z0 (ntr E824.1 P0825))
 have l825_1 := (ntr Z0 (ntr E824.1 P1825))
 show oG p e b T825 m 32 #[sJ 4000000000, s2, sJ x0, s2, sI 9, sJ (-9223372036854775808), s2] [(.ref u0825), (.ref b824), (.ref b824)] _
 refine o_lloadN X825 j (dc21 16 rfl) rfl ?_
 refine o_callV X825 j (ct131 u0825 x0 u1825 (((O_0.ext E824).keep K825 all0)) k P3825 P5825 P6825 P7825 hh1) rfl rfl (pL15 rfl) (dc21 17 rfl) 310 311 313 312 314 136 ⟨rfl, rfl, rfl, rfl, rfl, rfl⟩ P3825 2 rfl ?_
 rintro _ T826 L826 X826 ⟨u0826, u1826, rfl, M826, K826, P0826, P1826, P2826, P3826, P4826, P5826, P6826, P7826⟩
 have N826 := Fr.app N825 M826
 have l826_0 := (ntr Z0 (ntr (ntr E824.1 K825.1) P0826))
 have l826_1 := (ntr Z0 (ntr (ntr E824.1 K825.1) P1826))
 show oG p e b T826 m 36 #[sJ 4000000000, s2, sJ x0, s2, sI 9, sJ (-9223372036854775808), s2] [(.ref u0826), (.ref b824), (.ref b824)] _
 refine o_ldc2 X826 j (dc21 18 rfl) 51 rfl ?_
 refine o_iload X826 j (dc21 19 rfl) rfl ?_
 refine o_iconstL X826 j (dc21 20 rfl) 0 ?_
 have y827 := (((O_0.ext E824).keep K825 all0).keep K826 all0)
 have y828 := ((F824_intCompact.keep K825 nin0).keep K826 nin0)
 have y829 := ((F824_precision.keep K825 nin0).keep K826 nin0)
 refine o_callSp X826 j (ct121 b824 u0826 (9 : Int32) y827 k (((A824.keep K825).keep K826)) y828 (((F824_intVal.keep K825 nin0).keep K826 nin0)) y829 (((F824_scale.keep K825 nin0).keep K826 nin0)) l824 P3826) rfl rfl (pL4 rfl) (dc21 21 rfl) 78 79 81 34 ⟨rfl, rfl, rfl, rfl⟩ 1 rfl ?_
 rintro _ T830 L830 X830 ⟨rfl, M830, K830, P0830, P1830, P2830, P3830⟩
 have N830 := Fr.app N826 M830
 show oG p e b T830 m 45 #[sJ 4000000000, s2, sJ x0, s2, sI 9, sJ (-9223372036854775808), s2] [(.ref b824)] _
 have d831 := (nne (nlt (nlt A824.lt K825.1) P0826))
 have d832 := (Ne.symm d831)
 have d833 := (nne (nlt (nlt A824.lt K825.1) P1826))
 have d834 := (Ne.symm d833)
 exact o_retA X830 j (dc21 22 rfl) rfl ⟨b824, u0826, u1826, rfl, N830, (((((Keep.refl h0 []).ext E824).trans K825 all0).trans K826 all0).trans K830 (allS (Or.inr z824) all0)), z824, (ntr (ntr E824.1 K825.1) P0826), (ntr (ntr E824.1 K825.1) P1826), d832, d834, P2826, (((A824.keep K825).keep K826).keep K830), P0830, P1830, P2830, P3830, (P3826.keep K830), (P4826.keep K830 (ninS d832 nin0)), (P5826.keep K830 (ninS d832 nin0)), (P6826.keep K830 (ninS d832 nin0)), (P7826.keep K830 (ninS d834 nin0))⟩
def H133 (x0 : Int64) : Bool := decide (¬ (4000000000 : Int64) = (-9223372036854775808 : Int64)) && (decide (¬ x0 = (-9223372036854775808 : Int64)) && ((H132 x0) && true))
theorem ct133 (a1 a2 : Addr) (x0 : Int64) (O_0 : Old Z n0 h0) (k : own_K Z a0 g) (E_0 : Ee1 Z h0 a1) (F0intCompact : Ff2 Z h0 a1 (.long 4000000000)) (F0scale : Ff3 Z h0 a1 (.int 9)) (E_1 : Ee1 Z h0 a2) (F1intCompact : Ff2 Z h0 a2 (.long x0)) (F1scale : Ff3 Z h0 a2 (.int 0)) (hH : H133 x0 = true) :
 mM19 l ws (oR 5 5 21 87) #[(.ref a1), (.ref a2)] Z h0 fun v h L => ∃ (u0842 : Addr) (u1842 : Addr) (u2842 : Addr), v = some (.ref u0842) ∧ Fr n0 L ∧ Keep h0 h [] ∧ h0.size ≤ u0842 ∧ h0.size ≤ u1842 ∧ h0.size ≤ u2842 ∧ u1842 ≠ u0842 ∧ u2842 ≠ u0842 ∧ u2842 ≠ u1842 ∧ Ee1 Z h u0842 ∧ Ff2 Z h u0842 (.long (-9223372036854775808)) ∧ Ff6 Z h u0842 (.ref u1842) ∧ Ff7 Z h u0842 (.int 0) ∧ Ff3 Z h u0842 (.int 9) ∧ Ee0 Z h u1842 ∧ Ff8 Z h u1842 (.int 0) ∧ Ff1 Z h u1842 (.ref u2842) ∧ Ff0 Z h u1842 (.int 1) ∧ own_Ar Z h u2842 .int [(.int ((D131_4 x0).toInt32)), (.int ((D131_3 x0).toInt32)), (.int ((D131_1 x0).toInt32))] := by
 refine o_body own_pn19 k.1 (ef15 _ _) ?_
 intro p e s m b _ c T0 X0 j e0
 have N0 := Fr.nil n0
 have Z0 := own_Z0 O_0
 obtain ⟨hh0, q0⟩ := o_ad hH
 obtain ⟨hh1, q1⟩ := o_ad q0
 obtain ⟨hh2, q2⟩ := own_and q1
 refine o_aloadN X0 j (dc19 0 rfl) rfl rfl ?_
 refine o_aloadN X0 j (dc19 1 rfl) rfl rfl ?_
 refine o_getF X0 j (dc19 2 rfl) 52 rfl e0 F0scale fun T835 X835 e835 => ?_
 refine o_i2lL X835 j (dc19 3 rfl) 9 ?_
 refine o_aloadN X835 j (dc19 4 rfl) rfl rfl ?_
 refine o_getF X835 j (dc19 5 rfl) 52 rfl e835 F1scale fun T836 X836 e836 => ?_
 refine o_i2lL X836 j (dc19 6 rfl) 0 ?_
 refine o_laddL X836 j (dc19 7 rfl) 9 ?_
 refine o_callPv X836 j (ct18 a1 (9 : Int64) O_0 k E_0 (by decide)) rfl rfl (pL13 rfl) (dc19 8 rfl) 100 102 103 101 104 34 ⟨rfl, rfl, rfl, rfl, rfl, rfl⟩ E_0 0 e836 ?_
 rintro _ T837 L837 X837 ⟨hv837, M837, e837⟩
 rw [show ((9 : Int64).toInt32) = (9 : Int32) from by decide +kernel] at hv837
 subst hv837
 have N837 := Fr.app N0 M837
 show oG p e b T837 m 15 #[sR a1, sR a2, sU] [(.int 9)] _
 refine o_istoreN X837 j (dc19 9 rfl) (Ls' := #[sR a1, sR a2, sI 9]) rfl ?_
 refine o_aloadN X837 j (dc19 10 rfl) rfl rfl ?_
 refine o_getF X837 j (dc19 11 rfl) 49 rfl e837 F0intCompact fun T838 X838 e838 => ?_
 refine o_ldc2 X838 j (dc19 12 rfl) 51 rfl ?_
 refine o_lcmp X838 j (dc19 13 rfl) ?_
 refine o_ifNo X838 j (dc19 14 rfl) (feq (fun q => hh0 ((lw_eq (4000000000 : Int64) (-9223372036854775808 : Int64)).mp q))).1 ?_
 refine o_aloadN X838 j (dc19 15 rfl) rfl rfl ?_
 refine o_getF X838 j (dc19 16 rfl) 49 rfl e838 F1intCompact fun T839 X839 e839 => ?_
 refine o_ldc2 X839 j (dc19 17 rfl) 51 rfl ?_
 refine o_lcmp X839 j (dc19 18 rfl) ?_
 refine o_ifNo X839 j (dc19 19 rfl) (feq (fun q => hh1 ((lw_eq x0 (-9223372036854775808 : Int64)).mp q))).1 ?_
 refine o_aloadN X839 j (dc19 20 rfl) rfl rfl ?_
 refine o_getF X839 j (dc19 21 rfl) 49 rfl e839 F0intCompact fun T840 X840 e840 => ?_
 refine o_aloadN X840 j (dc19 22 rfl) rfl rfl ?_
 refine o_getF X840 j (dc19 23 rfl) 49 rfl e840 F1intCompact fun T841 X841 e841 => ?_
 refine o_iloadN X841 j (dc19 24 rfl) rfl ?_
 refine o_callS X841 j (ct132 x0 O_0 k hh2) rfl rfl (pL9 rfl) (dc19 25 rfl) 105 106 34 107 ⟨rfl, rfl, rfl, rfl⟩ 0 e841 ?_
 rintro _ T842 L842 X842 ⟨u0842, u1842, u2842, rfl, M842, K842, P0842, P1842, P2842, P3842, P4842, P5842, P6842, P7842, P8842, P9842, P10842, P11842, P12842, P13842, P14842, P15842⟩
 have N842 := Fr.app N837 M842
 have l842_0 := (ntr Z0 P0842)
 have l842_1 := (ntr Z0 P1842)
 have l842_2 := (ntr Z0 P2842)
 show oG p e b T842 m 50 #[sR a1, sR a2, sI 9] [(.ref u0842)] _
 exact o_retA X842 j (dc19 26 rfl) rfl ⟨u0842, u1842, u2842, rfl, N842, ((Keep.refl h0 []).trans K842 all0), P0842, P1842, P2842, P3842, P4842, P5842, P6842, P7842, P8842, P9842, P10842, P11842, P12842, P13842, P14842, P15842⟩
theorem ct134 (a1 a2 : Addr) (x0 x1 x2 : Int32) (O_0 : Old Z n0 h0) (k : own_K Z a0 g) (E_0 : Ee3 Z h0 a1) (F0intLen : Ff9 Z h0 a1 (.int 0)) (F0offset : Ff10 Z h0 a1 (.int 0)) (F0value : Ff11 Z h0 a1 .null) (G_0 : n0 ≤ a1) (A_1 : own_Ar Z h0 a2 .int [(.int x0), (.int x1), (.int x2)]) (ne_0_1 : a1 ≠ a2) :
 mM33 l ws (oR 1 0 0 12) #[(.ref a1), (.ref a2)] Z h0 fun v h L => v = none ∧ Fr n0 L ∧ Keep h0 h [a1] ∧ Ff9 Z h a1 (.int 3) ∧ Ff10 Z h a1 (.int 0) ∧ Ff11 Z h a1 (.ref a2) := by
 refine o_body own_pn33 k.1 (ef12 _ _) ?_
 intro p e s m b _ c T0 X0 j e0
 have N0 := Fr.nil n0
 have Z0 := own_Z0 O_0
 refine o_aloadN X0 j (dc33 0 rfl) rfl rfl ?_
 refine o_initO X0 j (dc33 1 rfl) 171 89 90 ⟨rfl, rfl, rfl⟩ e0 0 fun T843 X843 e843 => ?_
 show oG p e b T843 m 4 #[sR a1, sR a2] [] _
 refine o_aloadN X843 j (dc33 2 rfl) rfl rfl ?_
 refine o_iconstL X843 j (dc33 3 rfl) 0 ?_
 refine o_put X843 j (dc33 4 rfl) 172 173 165 ⟨rfl, rfl, rfl⟩ .int e843 F0offset E_0 fun T844 h844 X844 e844 W844 => ?_
 have F844 := (F0offset).same W844
 have N844 := Fr.snoc X844 N0 G_0
 refine o_aloadN X844 j (dc33 5 rfl) rfl rfl ?_
 refine o_aloadN X844 j (dc33 6 rfl) rfl rfl ?_
 have y846 := (F0value.other W844 (Or.inr (sn16 k)))
 refine o_put X844 j (dc33 7 rfl) 174 175 165 ⟨rfl, rfl, rfl⟩ (.array .int) e844 y846 (E_0.wr W844) fun T845 h845 X845 e845 W845 => ?_
 have F845 := y846.same W845
 have N845 := Fr.snoc X845 N844 G_0
 refine o_aloadN X845 j (dc33 8 rfl) rfl rfl ?_
 refine o_aloadN X845 j (dc33 9 rfl) rfl rfl ?_
 have y847 := ((A_1.other W844 (Ne.symm ne_0_1)).other W845 (Ne.symm ne_0_1))
 refine o_len X845 j (dc33 10 rfl) e845 y847 3 ?_
 have y849 := ((F0intLen.other W844 (Or.inr (sn17 k))).other W845 (Or.inr (sn18 k)))
 refine o_put X845 j (dc33 11 rfl) 176 177 165 ⟨rfl, rfl, rfl⟩ .int e845 y849 ((E_0.wr W844).wr W845) fun T848 h848 X848 e848 W848 => ?_
 have F848 := y849.same W848
 have N848 := Fr.snoc X848 N845 G_0
 have y850 := ((F844.other W845 (Or.inr (sn19 k))).other W848 (Or.inr (sn20 k)))
 have y851 := (F845.other W848 (Or.inr (sn21 k)))
 exact o_retV X848 j (dc33 12 rfl) e848 ⟨rfl, N848, ((((Keep.refl h0 [a1]).wr W844 (mI 0 rfl)).wr W845 (mI 0 rfl)).wr W848 (mI 0 rfl)), F848, y850, y851⟩
def H135 (x0 : Int32) (x1 : Int32) : Bool := decide (¬ x0 = (0 : Int32)) && true
theorem ct135 (a1 o1 : Addr) (x0 x1 : Int32) (O_0 : Old Z n0 h0) (k : own_K Z a0 g) (E_0 : Ee3 Z h0 a1) (F0intLen : Ff9 Z h0 a1 (.int 3)) (F0offset : Ff10 Z h0 a1 (.int 0)) (F0value : Ff11 Z h0 a1 (.ref o1)) (G_0 : n0 ≤ a1) (A_1 : own_Ar Z h0 o1 .int [(.int 0), (.int x0), (.int x1)]) (hH : H135 x0 x1 = true) :
 mM40 l ws (oR 0 0 0 0) #[(.ref a1)] Z h0 fun v h L => v = none ∧ Fr n0 L ∧ Keep h0 h [a1] ∧ Ff9 Z h a1 (.int 2) ∧ Ff10 Z h a1 (.int 1) ∧ Ff11 Z h a1 (.ref o1) := by
 refine o_body own_pn40 k.1 (ef21 _) ?_
 intro p e s m b _ c T0 X0 j e0
 have N0 := Fr.nil n0
 have Z0 := own_Z0 O_0
 obtain ⟨hh0, q0⟩ := o_ad hH
 refine o_aloadN X0 j (dc40 0 rfl) rfl rfl ?_
 refine o_getF X0 j (dc40 1 rfl) 176 rfl e0 F0intLen fun T852 X852 e852 => ?_
 refine o_ifYesD X852 j (dc40 2 rfl) 13 ?_
 refine o_aloadN X852 j (dc40 3 rfl) rfl rfl ?_
 refine o_getF X852 j (dc40 4 rfl) 172 rfl e852 F0offset fun T853 X853 e853 => ?_
 refine o_istoreN X853 j (dc40 5 rfl) (Ls' := #[sR a1, sI 0, sU, sU]) rfl ?_
 refine o_aloadN X853 j (dc40 6 rfl) rfl rfl ?_
 refine o_getF X853 j (dc40 7 rfl) 174 rfl e853 F0value fun T854 X854 e854 => ?_
 refine o_iloadN X854 j (dc40 8 rfl) rfl ?_
 refine o_iaload X854 j (dc40 9 rfl) e854 A_1 (.int 0) ?_
 refine o_ifYesD X854 j (dc40 10 rfl) 28 ?_
 refine o_iloadN X854 j (dc40 12 rfl) rfl ?_
 refine o_aloadN X854 j (dc40 13 rfl) rfl rfl ?_
 refine o_getF X854 j (dc40 14 rfl) 176 rfl e854 F0intLen fun T855 X855 e855 => ?_
 refine o_iaddL X855 j (dc40 15 rfl) 3 ?_
 refine o_istoreN X855 j (dc40 16 rfl) (Ls' := #[sR a1, sI 0, sI 3, sU]) rfl ?_
 refine o_iinc X855 j (dc40 17 rfl) rfl (z := 1) (by decide) (Ls' := #[sR a1, sI 1, sI 3, sU]) rfl ?_
 refine o_iloadN X855 j (dc40 18 rfl) rfl ?_
 refine o_iloadN X855 j (dc40 19 rfl) rfl ?_
 refine o_icmpNoD X855 j (dc40 20 rfl) ?_
 refine o_aloadN X855 j (dc40 21 rfl) rfl rfl ?_
 refine o_getF X855 j (dc40 22 rfl) 174 rfl e855 F0value fun T856 X856 e856 => ?_
 refine o_iloadN X856 j (dc40 23 rfl) rfl ?_
 refine o_iaload X856 j (dc40 24 rfl) e856 A_1 (.int x0) ?_
 refine o_ifNo X856 j (dc40 25 rfl) (feq hh0).1 ?_
 refine o_iloadN X856 j (dc40 26 rfl) rfl ?_
 refine o_aloadN X856 j (dc40 27 rfl) rfl rfl ?_
 refine o_getF X856 j (dc40 28 rfl) 172 rfl e856 F0offset fun T857 X857 e857 => ?_
 refine o_isubL X857 j (dc40 29 rfl) 1 ?_
 refine o_istoreN X857 j (dc40 30 rfl) (Ls' := #[sR a1, sI 1, sI 3, sI 1]) rfl ?_
 refine o_aloadN X857 j (dc40 31 rfl) rfl rfl ?_
 refine o_dup X857 j (dc40 32 rfl) rfl ?_
 refine o_getF X857 j (dc40 33 rfl) 176 rfl e857 F0intLen fun T858 X858 e858 => ?_
 refine o_iloadN X858 j (dc40 34 rfl) rfl ?_
 refine o_isubL X858 j (dc40 35 rfl) 2 ?_
 refine o_put X858 j (dc40 36 rfl) 176 177 165 ⟨rfl, rfl, rfl⟩ .int e858 F0intLen E_0 fun T859 h859 X859 e859 W859 => ?_
 have F859 := (F0intLen).same W859
 have N859 := Fr.snoc X859 N0 G_0
 refine o_aloadN X859 j (dc40 37 rfl) rfl rfl ?_
 refine o_aloadN X859 j (dc40 38 rfl) rfl rfl ?_
 refine o_getF X859 j (dc40 39 rfl) 176 rfl e859 F859 fun T860 X860 e860 => ?_
 refine o_ifYesD X860 j (dc40 40 rfl) 81 ?_
 refine o_aloadN X860 j (dc40 41 rfl) rfl rfl ?_
 have y861 := (F0offset.other W859 (Or.inr (sn20 k)))
 refine o_getF X860 j (dc40 42 rfl) 172 rfl e860 y861 fun T862 X862 e862 => ?_
 refine o_iloadN X862 j (dc40 43 rfl) rfl ?_
 refine o_iaddL X862 j (dc40 44 rfl) 1 ?_
 refine o_put X862 j (dc40 45 rfl) 172 173 165 ⟨rfl, rfl, rfl⟩ .int e862 y861 (E_0.wr W859) fun T863 h863 X863 e863 W863 => ?_
 have F863 := y861.same W863
 have N863 := Fr.snoc X863 N859 G_0
 have y864 := (F859.other W863 (Or.inr (sn17 k)))
 have y865 := ((F0value.other W859 (Or.inr (sn21 k))).other W863 (Or.inr (sn16 k)))
 exact o_retV X863 j (dc40 46 rfl) e863 ⟨rfl, N863, (((Keep.refl h0 [a1]).wr W859 (mI 0 rfl)).wr W863 (mI 0 rfl)), y864, F863, y865⟩
def D136_0 (x0 : Int32) (x1 : Int32) : Int64 := ((((x0.toInt64) &&& (4294967295 : Int64)) <<< ((32 : Int32) &&& 0x3f).toInt64) ||| ((x1.toInt64) &&& (4294967295 : Int64)))
def D136_1 (x0 : Int32) (x1 : Int32) : Int32 := (((D136_0 x0 x1) / (1000000000 : Int64)).toInt32)
def D136_2 (x0 : Int32) (x1 : Int32) : Int32 := (((D136_0 x0 x1) - (((D136_1 x0 x1).toInt64) * (1000000000 : Int64))).toInt32)
def D136_3 (x0 : Int32) (x1 : Int32) : Int64 := (((D136_2 x0 x1).toInt64) &&& (4294967295 : Int64))
def D136_4 (x0 : Int32) (x1 : Int32) (x2 : Int32) : Int64 := (((D136_3 x0 x1) <<< ((32 : Int32) &&& 0x3f).toInt64) ||| ((x2.toInt64) &&& (4294967295 : Int64)))
def D136_5 (x0 : Int32) (x1 : Int32) (x2 : Int32) : Int32 := (((D136_4 x0 x1 x2) / (1000000000 : Int64)).toInt32)
def D136_6 (x0 : Int32) (x1 : Int32) (x2 : Int32) : Int32 := (((D136_4 x0 x1 x2) - (((D136_5 x0 x1 x2).toInt64) * (1000000000 : Int64))).toInt32)
def D136_7 (x0 : Int32) (x1 : Int32) (x2 : Int32) : Int64 := (((D136_6 x0 x1 x2).toInt64) &&& (4294967295 : Int64))
def H136 (x0 : Int32) (x1 : Int32) (x2 : Int32) : Bool := decide (((x0.toInt64) &&& (4294967295 : Int64)) < (1000000000 : Int64)) && (decide (¬ (D136_0 x0 x1) < (0 : Int64)) && (decide (¬ (D136_4 x0 x1 x2) < (0 : Int64)) && ((H135 (D136_1 x0 x1) (D136_5 x0 x1 x2)) && (decide ((0 : Int32) < (own_nlz (1000000000 : Int32))) && true))))
def R136_0 (x0 : Int32) (x1 : Int32) (x2 : Int32) : Int32 := ((D136_6 x0 x1 x2) - ((D136_6 x0 x1 x2) / (1000000000 : Int32)) * (1000000000 : Int32))
theorem ct136 (a1 a3 o2 o3 : Addr) (x0 x1 x2 : Int32) (O_0 : Old Z n0 h0) (k : own_K Z a0 g) (E_0 : Ee3 Z h0 a1) (F0intLen : Ff9 Z h0 a1 (.int 3)) (F0offset : Ff10 Z h0 a1 (.int 0)) (F0value : Ff11 Z h0 a1 (.ref o2)) (E_1 : Ee3 Z h0 a3) (F1intLen : Ff9 Z h0 a3 (.int 0)) (F1offset : Ff10 Z h0 a3 (.int 0)) (F1value : Ff11 Z h0 a3 (.ref o3)) (G_1 : n0 ≤ a3) (A_2 : own_Ar Z h0 o2 .int [(.int x0), (.int x1), (.int x2)]) (A_3 : own_Ar Z h0 o3 .int [(.int 0)]) (ne_0_1 : a1 ≠ a3) (ne_1_2 : a3 ≠ o2) (hH : H136 x0 x1 x2 = true) :
 mM38 l ws (oR 1 1 3 15) #[(.ref a1), (.int 1000000000), (.ref a3)] Z h0 fun v h L => ∃ (b870 : Addr), v = some (.int (R136_0 x0 x1 x2)) ∧ Fr n0 L ∧ Keep h0 h [a3] ∧ h0.size ≤ b870 ∧ own_Ar Z h b870 .int [(.int 0), (.int (D136_1 x0 x1)), (.int (D136_5 x0 x1 x2))] ∧ Ff9 Z h a3 (.int 2) ∧ Ff10 Z h a3 (.int 1) ∧ Ff11 Z h a3 (.ref b870) := by
 refine o_body own_pn38 k.1 (ef22 _ _ _) ?_
 intro p e s m b _ c T0 X0 j e0
 have N0 := Fr.nil n0
 have Z0 := own_Z0 O_0
 obtain ⟨hh0, q0⟩ := o_ad hH
 obtain ⟨hh1, q1⟩ := o_ad q0
 obtain ⟨hh2, q2⟩ := o_ad q1
 obtain ⟨hh3, q3⟩ := own_and q2
 obtain ⟨hh4, q4⟩ := o_ad q3
 refine o_iloadN X0 j (dc38 0 rfl) rfl ?_
 refine o_i2lL X0 j (dc38 1 rfl) 1000000000 ?_
 refine o_ldc2 X0 j (dc38 2 rfl) 206 rfl ?_
 refine o_landL X0 j (dc38 3 rfl) 1000000000 ?_
 refine o_lstoreN X0 j (dc38 4 rfl) (Ls' := #[sR a1, sI 1000000000, sR a3, sJ 1000000000, s2, sU, sU, sU, sU, sU, sU, sU, sU, sU, sU]) rfl ?_
 refine o_aloadN X0 j (dc38 5 rfl) rfl rfl ?_
 refine o_getF X0 j (dc38 6 rfl) 176 rfl e0 F0intLen fun T866 X866 e866 => ?_
 refine o_iconstL X866 j (dc38 7 rfl) 1 ?_
 refine o_icmpYesD X866 j (dc38 8 rfl) 79 ?_
 refine o_aloadN X866 j (dc38 9 rfl) rfl rfl ?_
 refine o_getF X866 j (dc38 10 rfl) 174 rfl e866 F1value fun T867 X867 e867 => ?_
 refine o_len X867 j (dc38 11 rfl) e867 A_3 1 ?_
 refine o_aloadN X867 j (dc38 12 rfl) rfl rfl ?_
 refine o_getF X867 j (dc38 13 rfl) 176 rfl e867 F0intLen fun T868 X868 e868 => ?_
 refine o_icmpNoD X868 j (dc38 14 rfl) ?_
 refine o_aloadN X868 j (dc38 15 rfl) rfl rfl ?_
 refine o_aloadN X868 j (dc38 16 rfl) rfl rfl ?_
 refine o_getF X868 j (dc38 17 rfl) 176 rfl e868 F0intLen fun T869 X869 e869 => ?_
 refine o_newA X869 j (dc38 18 rfl) 149 rfl e869 3 [(.int 0), (.int 0), (.int 0)] fun T870 h870 b870 X870 e870 g870 E870 A870 => ?_
 have z870 := ntr (Nat.le_refl _) (nqs g870)
 have l870 := (ntr Z0 z870)
 refine o_put X870 j (dc38 19 rfl) 174 175 165 ⟨rfl, rfl, rfl⟩ (.array .int) e870 (F1value.ext E870) (E_1.ext E870) fun T871 h871 X871 e871 W871 => ?_
 have F871 := ((F1value.ext E870)).same W871
 have N871 := Fr.snoc X871 N0 G_1
 refine o_aloadN X871 j (dc38 20 rfl) rfl rfl ?_
 refine o_iconstL X871 j (dc38 21 rfl) 0 ?_
 have y873 := ((F1offset.ext E870).other W871 (Or.inr (sn19 k)))
 refine o_put X871 j (dc38 22 rfl) 172 173 165 ⟨rfl, rfl, rfl⟩ .int e871 y873 ((E_1.ext E870).wr W871) fun T872 h872 X872 e872 W872 => ?_
 have F872 := y873.same W872
 have N872 := Fr.snoc X872 N871 G_1
 refine o_aloadN X872 j (dc38 23 rfl) rfl rfl ?_
 refine o_aloadN X872 j (dc38 24 rfl) rfl rfl ?_
 have y874 := (((F0intLen.ext E870).other W871 (Or.inl ne_0_1)).other W872 (Or.inl ne_0_1))
 refine o_getF X872 j (dc38 25 rfl) 176 rfl e872 y874 fun T875 X875 e875 => ?_
 have y877 := (((F1intLen.ext E870).other W871 (Or.inr (sn18 k))).other W872 (Or.inr (sn17 k)))
 refine o_put X875 j (dc38 26 rfl) 176 177 165 ⟨rfl, rfl, rfl⟩ .int e875 y877 (((E_1.ext E870).wr W871).wr W872) fun T876 h876 X876 e876 W876 => ?_
 have F876 := y877.same W876
 have N876 := Fr.snoc X876 N872 G_1
 refine o_iloadN X876 j (dc38 27 rfl) rfl ?_
 have y878 := ((((O_0.ext E870).wr W871 G_1).wr W872 G_1).wr W876 G_1)
 refine o_callS X876 j (rm_nlz (n0 := n0) k.1 (1000000000 : Int32)) rfl rfl (pL18 rfl) (dc38 28 rfl) 207 208 209 210 ⟨rfl, rfl, rfl, rfl⟩ 0 e876 ?_
 rintro _ T879 L879 X879 ⟨rfl, M879, e879⟩
 have N879 := Fr.app N876 M879
 show oG p e b T879 m 118 #[sR a1, sI 1000000000, sR a3, sJ 1000000000, s2, sU, sU, sU, sU, sU, sU, sU, sU, sU, sU] [(.int (own_nlz (1000000000 : Int32)))] _
 refine o_istore X879 j (dc38 29 rfl) (Ls' := #[sR a1, sI 1000000000, sR a3, sJ 1000000000, s2, sI (own_nlz (1000000000 : Int32)), sU, sU, sU, sU, sU, sU, sU, sU, sU]) rfl ?_
 refine o_aloadN X879 j (dc38 30 rfl) rfl rfl ?_
 have y880 := ((((F0value.ext E870).other W871 (Or.inl ne_0_1)).other W872 (Or.inl ne_0_1)).other W876 (Or.inl ne_0_1))
 refine o_getF X879 j (dc38 31 rfl) 174 rfl e879 y880 fun T881 X881 e881 => ?_
 refine o_aloadN X881 j (dc38 32 rfl) rfl rfl ?_
 have y882 := ((((F0offset.ext E870).other W871 (Or.inl ne_0_1)).other W872 (Or.inl ne_0_1)).other W876 (Or.inl ne_0_1))
 refine o_getF X881 j (dc38 33 rfl) 172 rfl e881 y882 fun T883 X883 e883 => ?_
 have y884 := ((((A_2.ext E870).other W871 (Ne.symm ne_1_2)).other W872 (Ne.symm ne_1_2)).other W876 (Ne.symm ne_1_2))
 refine o_iaload X883 j (dc38 34 rfl) e883 y884 (.int x0) ?_
 refine o_istore X883 j (dc38 35 rfl) (Ls' := #[sR a1, sI 1000000000, sR a3, sJ 1000000000, s2, sI (own_nlz (1000000000 : Int32)), sI x0, sU, sU, sU, sU, sU, sU, sU, sU]) rfl ?_
 refine o_iload X883 j (dc38 36 rfl) rfl ?_
 refine o_i2l X883 j (dc38 37 rfl) ?_
 refine o_ldc2 X883 j (dc38 38 rfl) 206 rfl ?_
 refine o_land X883 j (dc38 39 rfl) ?_
 refine o_lstore X883 j (dc38 40 rfl) (Ls' := #[sR a1, sI 1000000000, sR a3, sJ 1000000000, s2, sI (own_nlz (1000000000 : Int32)), sI x0, sJ ((x0.toInt64) &&& (4294967295 : Int64)), s2, sU, sU, sU, sU, sU, sU]) rfl ?_
 refine o_lload X883 j (dc38 41 rfl) rfl ?_
 refine o_lloadN X883 j (dc38 42 rfl) rfl ?_
 refine o_lcmp X883 j (dc38 43 rfl) ?_
 refine o_ifNo X883 j (dc38 44 rfl) (tlt ((lw_lt ((x0.toInt64) &&& (4294967295 : Int64)) (1000000000 : Int64)).mpr hh0)).2.1 ?_
 refine o_aloadN X883 j (dc38 45 rfl) rfl rfl ?_
 have y885 := ((F871.other W872 (Or.inr (sn16 k))).other W876 (Or.inr (sn21 k)))
 refine o_getF X883 j (dc38 46 rfl) 174 rfl e883 y885 fun T886 X886 e886 => ?_
 refine o_iconstL X886 j (dc38 47 rfl) 0 ?_
 refine o_iconstL X886 j (dc38 48 rfl) 0 ?_
 have d888 := (nne (nlt E_1.lt (nqs g870)))
 have d889 := (Ne.symm d888)
 have y890 := (((A870.other W871 d889).other W872 d889).other W876 d889)
 refine o_iastore X886 j (dc38 49 rfl) e886 y890 (.int 0) fun T887 h887 X887 e887 W887 A887 => ?_
 have B887 : own_Ar Z h887 b870 .int [(.int 0), (.int 0), (.int 0)] := A887
 have N887 := Fr.snoc X887 N879 l870
 refine o_goto X887 j (dc38 50 rfl) 192 ?_
 refine o_aloadN X887 j (dc38 75 rfl) rfl rfl ?_
 have d891 := (nne (nlt E_0.lt (nqs g870)))
 have y892 := ((y874.other W876 (Or.inl ne_0_1)).other W887 (Or.inl d891))
 refine o_getF X887 j (dc38 76 rfl) 176 rfl e887 y892 fun T893 X893 e893 => ?_
 refine o_istore X893 j (dc38 77 rfl) (Ls' := #[sR a1, sI 1000000000, sR a3, sJ 1000000000, s2, sI (own_nlz (1000000000 : Int32)), sI x0, sJ ((x0.toInt64) &&& (4294967295 : Int64)), s2, sI 3, sU, sU, sU, sU, sU]) rfl ?_
 refine o_iinc X893 j (dc38 78 rfl) rfl (z := 2) (by decide) (Ls' := #[sR a1, sI 1000000000, sR a3, sJ 1000000000, s2, sI (own_nlz (1000000000 : Int32)), sI x0, sJ ((x0.toInt64) &&& (4294967295 : Int64)), s2, sI 2, sU, sU, sU, sU, sU]) rfl ?_
 refine o_iload X893 j (dc38 79 rfl) rfl ?_
 refine o_ifNoD X893 j (dc38 80 rfl) ?_
 refine o_lload X893 j (dc38 81 rfl) rfl ?_
 refine o_bipushL X893 j (dc38 82 rfl) 32 ?_
 refine o_lshl X893 j (dc38 83 rfl) ?_
 refine o_aloadN X893 j (dc38 84 rfl) rfl rfl ?_
 refine o_getF X893 j (dc38 85 rfl) 174 rfl e893 (y880.other W887 (Or.inl d891)) fun T894 X894 e894 => ?_
 refine o_aloadN X894 j (dc38 86 rfl) rfl rfl ?_
 refine o_getF X894 j (dc38 87 rfl) 172 rfl e894 (y882.other W887 (Or.inl d891)) fun T895 X895 e895 => ?_
 refine o_aloadN X895 j (dc38 88 rfl) rfl rfl ?_
 refine o_getF X895 j (dc38 89 rfl) 176 rfl e895 y892 fun T896 X896 e896 => ?_
 refine o_iaddL X896 j (dc38 90 rfl) 3 ?_
 refine o_iload X896 j (dc38 91 rfl) rfl ?_
 refine o_isubL X896 j (dc38 92 rfl) 1 ?_
 have d897 := (nne (nlt A_2.lt (nqs g870)))
 refine o_iaload X896 j (dc38 93 rfl) e896 ((y884.other W887 d897)) (.int x1) ?_
 refine o_i2l X896 j (dc38 94 rfl) ?_
 refine o_ldc2 X896 j (dc38 95 rfl) 206 rfl ?_
 refine o_land X896 j (dc38 96 rfl) ?_
 refine o_lor X896 j (dc38 97 rfl) ?_
 refine o_lstore X896 j (dc38 98 rfl) (Ls' := #[sR a1, sI 1000000000, sR a3, sJ 1000000000, s2, sI (own_nlz (1000000000 : Int32)), sI x0, sJ ((x0.toInt64) &&& (4294967295 : Int64)), s2, sI 2, sJ (D136_0 x0 x1), s2, sU, sU, sU]) rfl ?_
 refine o_lload X896 j (dc38 99 rfl) rfl ?_
 refine o_lconstL X896 j (dc38 100 rfl) 0 ?_
 refine o_lcmp X896 j (dc38 101 rfl) ?_
 refine o_ifNo X896 j (dc38 102 rfl) (flt (fun q => hh1 ((lw_lt (D136_0 x0 x1) (0 : Int64)).mp q))).1 ?_
 refine o_lload X896 j (dc38 103 rfl) rfl ?_
 refine o_lloadN X896 j (dc38 104 rfl) rfl ?_
 refine o_ldiv X896 j (dc38 105 rfl) (by decide) ?_
 refine o_l2i X896 j (dc38 106 rfl) ?_
 refine o_istore X896 j (dc38 107 rfl) (Ls' := #[sR a1, sI 1000000000, sR a3, sJ 1000000000, s2, sI (own_nlz (1000000000 : Int32)), sI x0, sJ ((x0.toInt64) &&& (4294967295 : Int64)), s2, sI 2, sJ (D136_0 x0 x1), s2, sI (D136_1 x0 x1), sU, sU]) rfl ?_
 refine o_lload X896 j (dc38 108 rfl) rfl ?_
 refine o_iload X896 j (dc38 109 rfl) rfl ?_
 refine o_i2l X896 j (dc38 110 rfl) ?_
 refine o_lloadN X896 j (dc38 111 rfl) rfl ?_
 refine o_lmul X896 j (dc38 112 rfl) ?_
 refine o_lsub X896 j (dc38 113 rfl) ?_
 refine o_l2i X896 j (dc38 114 rfl) ?_
 refine o_istore X896 j (dc38 115 rfl) (Ls' := #[sR a1, sI 1000000000, sR a3, sJ 1000000000, s2, sI (own_nlz (1000000000 : Int32)), sI (D136_2 x0 x1), sJ ((x0.toInt64) &&& (4294967295 : Int64)), s2, sI 2, sJ (D136_0 x0 x1), s2, sI (D136_1 x0 x1), sU, sU]) rfl ?_
 refine o_goto X896 j (dc38 116 rfl) 289 ?_
 refine o_aloadN X896 j (dc38 117 rfl) rfl rfl ?_
 refine o_getF X896 j (dc38 118 rfl) 174 rfl e896 (y885.other W887 (Or.inl d888)) fun T898 X898 e898 => ?_
 refine o_aloadN X898 j (dc38 119 rfl) rfl rfl ?_
 refine o_getF X898 j (dc38 120 rfl) 176 rfl e898 y892 fun T899 X899 e899 => ?_
 refine o_iload X899 j (dc38 121 rfl) rfl ?_
 refine o_isubL X899 j (dc38 122 rfl) 1 ?_
 refine o_iload X899 j (dc38 123 rfl) rfl ?_
 refine o_iastore X899 j (dc38 124 rfl) e899 B887 (.int 0) fun T900 h900 X900 e900 W900 A900 => ?_
 have B900 : own_Ar Z h900 b870 .int [(.int 0), (.int (D136_1 x0 x1)), (.int 0)] := A900
 have N900 := Fr.snoc X900 N887 l870
 refine o_iload X900 j (dc38 125 rfl) rfl ?_
 refine o_i2l X900 j (dc38 126 rfl) ?_
 refine o_ldc2 X900 j (dc38 127 rfl) 206 rfl ?_
 refine o_land X900 j (dc38 128 rfl) ?_
 refine o_lstore X900 j (dc38 129 rfl) (Ls' := #[sR a1, sI 1000000000, sR a3, sJ 1000000000, s2, sI (own_nlz (1000000000 : Int32)), sI (D136_2 x0 x1), sJ (D136_3 x0 x1), s2, sI 2, sJ (D136_0 x0 x1), s2, sI (D136_1 x0 x1), sU, sU]) rfl ?_
 refine o_goto X900 j (dc38 130 rfl) 198 ?_
 refine o_iinc X900 j (dc38 78 rfl) rfl (z := 1) (by decide) (Ls' := #[sR a1, sI 1000000000, sR a3, sJ 1000000000, s2, sI (own_nlz (1000000000 : Int32)), sI (D136_2 x0 x1), sJ (D136_3 x0 x1), s2, sI 1, sJ (D136_0 x0 x1), s2, sI (D136_1 x0 x1), sU, sU]) rfl ?_
 refine o_iload X900 j (dc38 79 rfl) rfl ?_
 refine o_ifNoD X900 j (dc38 80 rfl) ?_
 refine o_lload X900 j (dc38 81 rfl) rfl ?_
 refine o_bipushL X900 j (dc38 82 rfl) 32 ?_
 refine o_lshl X900 j (dc38 83 rfl) ?_
 refine o_aloadN X900 j (dc38 84 rfl) rfl rfl ?_
 have y901 := ((y880.other W887 (Or.inl d891)).other W900 (Or.inl d891))
 refine o_getF X900 j (dc38 85 rfl) 174 rfl e900 y901 fun T902 X902 e902 => ?_
 refine o_aloadN X902 j (dc38 86 rfl) rfl rfl ?_
 have y903 := ((y882.other W887 (Or.inl d891)).other W900 (Or.inl d891))
 refine o_getF X902 j (dc38 87 rfl) 172 rfl e902 y903 fun T904 X904 e904 => ?_
 refine o_aloadN X904 j (dc38 88 rfl) rfl rfl ?_
 refine o_getF X904 j (dc38 89 rfl) 176 rfl e904 (y892.other W900 (Or.inl d891)) fun T905 X905 e905 => ?_
 refine o_iaddL X905 j (dc38 90 rfl) 3 ?_
 refine o_iload X905 j (dc38 91 rfl) rfl ?_
 refine o_isubL X905 j (dc38 92 rfl) 2 ?_
 refine o_iaload X905 j (dc38 93 rfl) e905 (((y884.other W887 d897).other W900 d897)) (.int x2) ?_
 refine o_i2l X905 j (dc38 94 rfl) ?_
 refine o_ldc2 X905 j (dc38 95 rfl) 206 rfl ?_
 refine o_land X905 j (dc38 96 rfl) ?_
 refine o_lor X905 j (dc38 97 rfl) ?_
 refine o_lstore X905 j (dc38 98 rfl) (Ls' := #[sR a1, sI 1000000000, sR a3, sJ 1000000000, s2, sI (own_nlz (1000000000 : Int32)), sI (D136_2 x0 x1), sJ (D136_3 x0 x1), s2, sI 1, sJ (D136_4 x0 x1 x2), s2, sI (D136_1 x0 x1), sU, sU]) rfl ?_
 refine o_lload X905 j (dc38 99 rfl) rfl ?_
 refine o_lconstL X905 j (dc38 100 rfl) 0 ?_
 refine o_lcmp X905 j (dc38 101 rfl) ?_
 refine o_ifNo X905 j (dc38 102 rfl) (flt (fun q => hh2 ((lw_lt (D136_4 x0 x1 x2) (0 : Int64)).mp q))).1 ?_
 refine o_lload X905 j (dc38 103 rfl) rfl ?_
 refine o_lloadN X905 j (dc38 104 rfl) rfl ?_
 refine o_ldiv X905 j (dc38 105 rfl) (by decide) ?_
 refine o_l2i X905 j (dc38 106 rfl) ?_
 refine o_istore X905 j (dc38 107 rfl) (Ls' := #[sR a1, sI 1000000000, sR a3, sJ 1000000000, s2, sI (own_nlz (1000000000 : Int32)), sI (D136_2 x0 x1), sJ (D136_3 x0 x1), s2, sI 1, sJ (D136_4 x0 x1 x2), s2, sI (D136_5 x0 x1 x2), sU, sU]) rfl ?_
 refine o_lload X905 j (dc38 108 rfl) rfl ?_
 refine o_iload X905 j (dc38 109 rfl) rfl ?_
 refine o_i2l X905 j (dc38 110 rfl) ?_
 refine o_lloadN X905 j (dc38 111 rfl) rfl ?_
 refine o_lmul X905 j (dc38 112 rfl) ?_
 refine o_lsub X905 j (dc38 113 rfl) ?_
 refine o_l2i X905 j (dc38 114 rfl) ?_
 refine o_istore X905 j (dc38 115 rfl) (Ls' := #[sR a1, sI 1000000000, sR a3, sJ 1000000000, s2, sI (own_nlz (1000000000 : Int32)), sI (D136_6 x0 x1 x2), sJ (D136_3 x0 x1), s2, sI 1, sJ (D136_4 x0 x1 x2), s2, sI (D136_5 x0 x1 x2), sU, sU]) rfl ?_
 refine o_goto X905 j (dc38 116 rfl) 289 ?_
 refine o_aloadN X905 j (dc38 117 rfl) rfl rfl ?_
 have y906 := ((y885.other W887 (Or.inl d888)).other W900 (Or.inl d888))
 refine o_getF X905 j (dc38 118 rfl) 174 rfl e905 y906 fun T907 X907 e907 => ?_
 refine o_aloadN X907 j (dc38 119 rfl) rfl rfl ?_
 refine o_getF X907 j (dc38 120 rfl) 176 rfl e907 (y892.other W900 (Or.inl d891)) fun T908 X908 e908 => ?_
 refine o_iload X908 j (dc38 121 rfl) rfl ?_
 refine o_isubL X908 j (dc38 122 rfl) 2 ?_
 refine o_iload X908 j (dc38 123 rfl) rfl ?_
 refine o_iastore X908 j (dc38 124 rfl) e908 B900 (.int 0) fun T909 h909 X909 e909 W909 A909 => ?_
 have B909 : own_Ar Z h909 b870 .int [(.int 0), (.int (D136_1 x0 x1)), (.int (D136_5 x0 x1 x2))] := A909
 have N909 := Fr.snoc X909 N900 l870
 refine o_iload X909 j (dc38 125 rfl) rfl ?_
 refine o_i2l X909 j (dc38 126 rfl) ?_
 refine o_ldc2 X909 j (dc38 127 rfl) 206 rfl ?_
 refine o_land X909 j (dc38 128 rfl) ?_
 refine o_lstore X909 j (dc38 129 rfl) (Ls' := #[sR a1, sI 1000000000, sR a3, sJ 1000000000, s2, sI (own_nlz (1000000000 : Int32)), sI (D136_6 x0 x1 x2), sJ (D136_7 x0 x1 x2), s2, sI 1, sJ (D136_4 x0 x1 x2), s2, sI (D136_5 x0 x1 x2), sU, sU]) rfl ?_
 refine o_goto X909 j (dc38 130 rfl) 198 ?_
 refine o_iinc X909 j (dc38 78 rfl) rfl (z := 0) (by decide) (Ls' := #[sR a1, sI 1000000000, sR a3, sJ 1000000000, s2, sI (own_nlz (1000000000 : Int32)), sI (D136_6 x0 x1 x2), sJ (D136_7 x0 x1 x2), s2, sI 0, sJ (D136_4 x0 x1 x2), s2, sI (D136_5 x0 x1 x2), sU, sU]) rfl ?_
 refine o_iload X909 j (dc38 79 rfl) rfl ?_
 refine o_ifYesD X909 j (dc38 80 rfl) 315 ?_
 refine o_aloadN X909 j (dc38 131 rfl) rfl rfl ?_
 have y910 := (((y878.wr W887 l870).wr W900 l870).wr W909 l870)
 have y911 := (((((((E_1.ext E870).wr W871).wr W872).wr W876).wr W887).wr W900).wr W909)
 have y912 := (((F876.other W887 (Or.inl d888)).other W900 (Or.inl d888)).other W909 (Or.inl d888))
 have y913 := ((((F872.other W876 (Or.inr (sn20 k))).other W887 (Or.inl d888)).other W900 (Or.inl d888)).other W909 (Or.inl d888))
 refine o_callV X909 j (ct135 a3 b870 (D136_1 x0 x1) (D136_5 x0 x1 x2) y910 k y911 y912 y913 ((y906.other W909 (Or.inl d888))) G_1 B909 hh3) rfl rfl (pL3 rfl) (dc38 132 rfl) 212 213 215 214 216 166 ⟨rfl, rfl, rfl, rfl, rfl, rfl⟩ y911 0 e909 ?_
 rintro _ T914 L914 X914 ⟨rfl, M914, K914, P0914, P1914, P2914⟩
 have N914 := Fr.app N909 M914
 show oG p e b T914 m 319 #[sR a1, sI 1000000000, sR a3, sJ 1000000000, s2, sI (own_nlz (1000000000 : Int32)), sI (D136_6 x0 x1 x2), sJ (D136_7 x0 x1 x2), s2, sI 0, sJ (D136_4 x0 x1 x2), s2, sI (D136_5 x0 x1 x2), sU, sU] [] _
 refine o_iload X914 j (dc38 133 rfl) rfl ?_
 refine o_ifNo X914 j (dc38 134 rfl) (tlt hh4).2.2.2 ?_
 refine o_iload X914 j (dc38 135 rfl) rfl ?_
 refine o_iloadN X914 j (dc38 136 rfl) rfl ?_
 refine o_irem X914 j (dc38 137 rfl) (by decide) ?_
 exact o_retI X914 j (dc38 138 rfl) rfl ⟨b870, rfl, N914, (((((((((Keep.refl h0 [a3]).ext E870).wr W871 (mI 0 rfl)).wr W872 (mI 0 rfl)).wr W876 (mI 0 rfl)).wr W887 (Or.inr z870)).wr W900 (Or.inr z870)).wr W909 (Or.inr z870)).trans K914 (allS (mI 0 rfl) all0)), z870, (B909.keep K914 (ninS d889 nin0)), P0914, P1914, P2914⟩
def H137 (x0 : Int32) (x1 : Int32) (x2 : Int32) : Bool := (H136 x0 x1 x2) && (decide ((R136_0 x0 x1 x2) = (0 : Int32)) && true)
theorem ct137 (a1 a2 a3 o3 o4 o5 : Addr) (x0 x1 x2 : Int32) (O_0 : Old Z n0 h0) (k : own_K Z a0 g) (E_0 : Ee3 Z h0 a1) (F0intLen : Ff9 Z h0 a1 (.int 3)) (F0offset : Ff10 Z h0 a1 (.int 0)) (F0value : Ff11 Z h0 a1 (.ref o3)) (E_1 : Ee3 Z h0 a2) (F1intLen : Ff9 Z h0 a2 (.int 1)) (F1offset : Ff10 Z h0 a2 (.int 0)) (F1value : Ff11 Z h0 a2 (.ref o4)) (E_2 : Ee3 Z h0 a3) (F2intLen : Ff9 Z h0 a3 (.int 0)) (F2offset : Ff10 Z h0 a3 (.int 0)) (F2value : Ff11 Z h0 a3 (.ref o5)) (G_2 : n0 ≤ a3) (A_3 : own_Ar Z h0 o3 .int [(.int x0), (.int x1), (.int x2)]) (A_4 : own_Ar Z h0 o4 .int [(.int 1000000000)]) (A_5 : own_Ar Z h0 o5 .int [(.int 0)]) (G_5 : n0 ≤ o5) (ne_0_2 : a1 ≠ a3) (ne_0_5 : a1 ≠ o5) (ne_1_2 : a2 ≠ a3) (ne_1_5 : a2 ≠ o5) (ne_2_3 : a3 ≠ o3) (ne_2_4 : a3 ≠ o4) (ne_2_5 : a3 ≠ o5) (ne_3_5 : o3 ≠ o5) (ne_4_5 : o4 ≠ o5) (hH : H137 x0 x1 x2 = true) :
 mM35 l ws (oR 2 3 7 41) #[(.ref a1), (.ref a2), (.ref a3), (.int 1)] Z h0 fun v h L => ∃ (b931 : Addr) (u0933 : Addr) (u0930 : Addr), v = some (.ref b931) ∧ Fr n0 L ∧ Keep h0 h [a3, o5] ∧ h0.size ≤ b931 ∧ h0.size ≤ u0933 ∧ h0.size ≤ u0930 ∧ u0933 ≠ b931 ∧ u0930 ≠ b931 ∧ u0930 ≠ u0933 ∧ Ee3 Z h b931 ∧ Ff9 Z h b931 (.int 0) ∧ Ff10 Z h b931 (.int 0) ∧ Ff11 Z h b931 (.ref u0933) ∧ own_Ar Z h u0933 .int [(.int 0)] ∧ own_Ar Z h u0930 .int [(.int 0), (.int (D136_1 x0 x1)), (.int (D136_5 x0 x1 x2))] ∧ Ff9 Z h a3 (.int 2) ∧ Ff10 Z h a3 (.int 1) ∧ Ff11 Z h a3 (.ref u0930) ∧ own_Ar Z h o5 .int [(.int 0)] := by
 refine o_body own_pn35 k.1 (ef23 _ _ _ _) ?_
 intro p e s m b _ c T0 X0 j e0
 have N0 := Fr.nil n0
 have Z0 := own_Z0 O_0
 obtain ⟨hh0, q0⟩ := own_and hH
 obtain ⟨hh1, q1⟩ := o_ad q0
 refine o_aloadN X0 j (dc35 0 rfl) rfl rfl ?_
 refine o_getF X0 j (dc35 1 rfl) 176 rfl e0 F1intLen fun T915 X915 e915 => ?_
 refine o_ifYesD X915 j (dc35 2 rfl) 17 ?_
 refine o_aloadN X915 j (dc35 3 rfl) rfl rfl ?_
 refine o_getF X915 j (dc35 4 rfl) 176 rfl e915 F0intLen fun T916 X916 e916 => ?_
 refine o_ifYesD X916 j (dc35 5 rfl) 50 ?_
 refine o_aloadN X916 j (dc35 6 rfl) rfl rfl ?_
 refine o_aloadN X916 j (dc35 7 rfl) rfl rfl ?_
 refine o_callV X916 j (ct34 a1 a2 (3 : Int32) O_0 k E_0 (F0intLen) E_1 (F1intLen) (by decide)) rfl rfl (pL19 rfl) (dc35 8 rfl) 191 192 194 193 195 166 ⟨rfl, rfl, rfl, rfl, rfl, rfl⟩ E_0 0 e916 ?_
 rintro _ T917 L917 X917 ⟨rfl, M917, e917⟩
 have N917 := Fr.app N0 M917
 show oG p e b T917 m 55 #[sR a1, sR a2, sR a3, sI 1, sU, sU, sU, sU] [(.int 1)] _
 refine o_istore X917 j (dc35 9 rfl) (Ls' := #[sR a1, sR a2, sR a3, sI 1, sI 1, sU, sU, sU]) rfl ?_
 refine o_iload X917 j (dc35 10 rfl) rfl ?_
 refine o_ifYesD X917 j (dc35 11 rfl) 89 ?_
 refine o_iload X917 j (dc35 12 rfl) rfl ?_
 refine o_ifYesD X917 j (dc35 13 rfl) 127 ?_
 refine o_aloadN X917 j (dc35 14 rfl) rfl rfl ?_
 refine o_callV X917 j (ct35 a3 o5 O_0 k E_2 (F2intLen) (F2offset) (F2value) G_2 A_5 G_5 ne_2_5) rfl rfl (pL3 rfl) (dc35 15 rfl) 196 197 199 198 200 166 ⟨rfl, rfl, rfl, rfl, rfl, rfl⟩ E_2 0 e917 ?_
 rintro _ T918 L918 X918 ⟨rfl, M918, K918, P0918, P1918, P2918, P3918⟩
 have N918 := Fr.app N917 M918
 show oG p e b T918 m 131 #[sR a1, sR a2, sR a3, sI 1, sI 1, sU, sU, sU] [] _
 refine o_aloadN X918 j (dc35 16 rfl) rfl rfl ?_
 have y919 := (F1intLen.keep K918 (ninS ne_1_2 (ninS ne_1_5 nin0)))
 refine o_getF X918 j (dc35 17 rfl) 176 rfl rfl y919 fun T920 X920 e920 => ?_
 refine o_iconstL X920 j (dc35 18 rfl) 1 ?_
 refine o_icmpNoD X920 j (dc35 19 rfl) ?_
 refine o_aloadN X920 j (dc35 20 rfl) rfl rfl ?_
 refine o_aloadN X920 j (dc35 21 rfl) rfl rfl ?_
 have y921 := (F1value.keep K918 (ninS ne_1_2 (ninS ne_1_5 nin0)))
 refine o_getF X920 j (dc35 22 rfl) 174 rfl e920 y921 fun T922 X922 e922 => ?_
 refine o_aloadN X922 j (dc35 23 rfl) rfl rfl ?_
 have y923 := (F1offset.keep K918 (ninS ne_1_2 (ninS ne_1_5 nin0)))
 refine o_getF X922 j (dc35 24 rfl) 172 rfl e922 y923 fun T924 X924 e924 => ?_
 have y925 := (A_4.keep K918 (ninS (Ne.symm ne_2_4) (ninS ne_4_5 nin0)))
 refine o_iaload X924 j (dc35 25 rfl) e924 y925 (.int 1000000000) ?_
 refine o_aloadN X924 j (dc35 26 rfl) rfl rfl ?_
 have y926 := (F0intLen.keep K918 (ninS ne_0_2 (ninS ne_0_5 nin0)))
 have y927 := (F0offset.keep K918 (ninS ne_0_2 (ninS ne_0_5 nin0)))
 have y928 := (F0value.keep K918 (ninS ne_0_2 (ninS ne_0_5 nin0)))
 have y929 := (A_3.keep K918 (ninS (Ne.symm ne_2_3) (ninS ne_3_5 nin0)))
 refine o_callV X924 j (ct136 a1 a3 o3 o5 x0 x1 x2 ((O_0.keep K918 (allS G_2 (allS G_5 all0)))) k ((E_0.keep K918)) y926 y927 y928 ((E_2.keep K918)) P0918 P1918 P2918 G_2 y929 P3918 ne_0_2 ne_2_3 hh0) rfl rfl (pL20 rfl) (dc35 27 rfl) 201 202 204 203 205 166 ⟨rfl, rfl, rfl, rfl, rfl, rfl⟩ (E_0.keep K918) 0 e924 ?_
 rintro _ T930 L930 X930 ⟨u0930, rfl, M930, K930, P0930, P1930, P2930, P3930, P4930⟩
 have N930 := Fr.app N918 M930
 have l930_0 := (ntr Z0 (ntr K918.1 P0930))
 show oG p e b T930 m 153 #[sR a1, sR a2, sR a3, sI 1, sI 1, sU, sU, sU] [(.int (R136_0 x0 x1 x2))] _
 refine o_istore X930 j (dc35 28 rfl) (Ls' := #[sR a1, sR a2, sR a3, sI 1, sI 1, sI (R136_0 x0 x1 x2), sU, sU]) rfl ?_
 refine o_iloadN X930 j (dc35 29 rfl) rfl ?_
 refine o_ifNoD X930 j (dc35 30 rfl) ?_
 refine o_iload X930 j (dc35 31 rfl) rfl ?_
 refine o_ifNo X930 j (dc35 32 rfl) (teq hh1).2 ?_
 refine o_new X930 j (dc35 33 rfl) 217 165 166 ⟨rfl, rfl, rfl⟩ rfl fun T931 h931 b931 X931 e931 g931 E931 A931 D931 => ?_
 have F931_offset : Ff10 Z h931 b931 (.int 0) := D931 (Or.inl (ot k 173 rfl)) (ty := .int) (by decide)
 have F931_value : Ff11 Z h931 b931 .null := D931 (Or.inl (ot k 175 rfl)) (ty := (.array .int)) (by decide)
 have F931_intLen : Ff9 Z h931 b931 (.int 0) := D931 (Or.inl (ot k 177 rfl)) (ty := .int) (by decide)
 have z931 := ntr (ntr K918.1 K930.1) (nqs g931)
 have l931 := (ntr Z0 z931)
 refine o_dup X931 j (dc35 34 rfl) rfl ?_
 have y932 := (((O_0.keep K918 (allS G_2 (allS G_5 all0))).keep K930 (allS G_2 all0)).ext E931)
 refine o_callSp X931 j (ct31 b931 y932 k A931 (F931_intLen) (F931_offset) (F931_value) l931) rfl rfl (pL3 rfl) (dc35 35 rfl) 218 168 170 166 ⟨rfl, rfl, rfl, rfl⟩ 1 e931 ?_
 rintro _ T933 L933 X933 ⟨u0933, rfl, M933, K933, P0933, P1933, P2933, P3933, P4933⟩
 have N933 := Fr.app N930 M933
 have l933_0 := (ntr Z0 (ntr (ntr (ntr z931 (Nat.le_of_eq g931)) E931.1) P0933))
 show oG p e b T933 m 171 #[sR a1, sR a2, sR a3, sI 1, sI 1, sI (R136_0 x0 x1 x2), sU, sU] [(.ref b931)] _
 have d934 := (nne (nlt A931.lt P0933))
 have d935 := (Ne.symm d934)
 have d936 := (nne (nlt P1930.lt (nqs g931)))
 have d937 := (nne (nlt (nlt P1930.lt E931.1) P0933))
 have d938 := (nne (nlt (nlt (nlt E_2.lt K918.1) K930.1) (nqs g931)))
 have d939 := (nne (nlt (nlt P3918.lt K930.1) (nqs g931)))
 have y940 := (((P3918.keep K930 (ninS (Ne.symm ne_2_5) nin0)).ext E931).keep K933 (ninS d939 nin0))
 exact o_retA X933 j (dc35 36 rfl) rfl ⟨b931, u0933, u0930, rfl, N933, (((((Keep.refl h0 [a3, o5]).trans K918 (allS (mI 0 rfl) (allS (mI 1 rfl) all0))).trans K930 (allS (mI 0 rfl) all0)).ext E931).trans K933 (allS (Or.inr z931) all0)), z931, (ntr (ntr (ntr z931 (Nat.le_of_eq g931)) E931.1) P0933), (ntr K918.1 P0930), d935, d936, d937, (A931.keep K933), P2933, P3933, P4933, P1933, ((P1930.ext E931).keep K933 (ninS d936 nin0)), ((P2930.ext E931).keep K933 (ninS d938 nin0)), ((P3930.ext E931).keep K933 (ninS d938 nin0)), ((P4930.ext E931).keep K933 (ninS d938 nin0)), y940⟩
def H138 (x0 : Int32) (x1 : Int32) (x2 : Int32) : Bool := (H137 x0 x1 x2) && true
theorem ct138 (a1 a2 a3 o3 o4 o5 : Addr) (x0 x1 x2 : Int32) (O_0 : Old Z n0 h0) (k : own_K Z a0 g) (E_0 : Ee3 Z h0 a1) (F0intLen : Ff9 Z h0 a1 (.int 3)) (F0offset : Ff10 Z h0 a1 (.int 0)) (F0value : Ff11 Z h0 a1 (.ref o3)) (E_1 : Ee3 Z h0 a2) (F1intLen : Ff9 Z h0 a2 (.int 1)) (F1offset : Ff10 Z h0 a2 (.int 0)) (F1value : Ff11 Z h0 a2 (.ref o4)) (E_2 : Ee3 Z h0 a3) (F2intLen : Ff9 Z h0 a3 (.int 0)) (F2offset : Ff10 Z h0 a3 (.int 0)) (F2value : Ff11 Z h0 a3 (.ref o5)) (G_2 : n0 ≤ a3) (A_3 : own_Ar Z h0 o3 .int [(.int x0), (.int x1), (.int x2)]) (A_4 : own_Ar Z h0 o4 .int [(.int 1000000000)]) (A_5 : own_Ar Z h0 o5 .int [(.int 0)]) (G_5 : n0 ≤ o5) (ne_0_2 : a1 ≠ a3) (ne_0_5 : a1 ≠ o5) (ne_1_2 : a2 ≠ a3) (ne_1_5 : a2 ≠ o5) (ne_2_3 : a3 ≠ o3) (ne_2_4 : a3 ≠ o4) (ne_2_5 : a3 ≠ o5) (ne_3_5 : o3 ≠ o5) (ne_4_5 : o4 ≠ o5) (hH : H138 x0 x1 x2 = true) :
 mM34 l ws (oR 3 3 7 60) #[(.ref a1), (.ref a2), (.ref a3)] Z h0 fun v h L => ∃ (u0941 : Addr) (u1941 : Addr) (u2941 : Addr), v = some (.ref u0941) ∧ Fr n0 L ∧ Keep h0 h [a3, o5] ∧ h0.size ≤ u0941 ∧ h0.size ≤ u1941 ∧ h0.size ≤ u2941 ∧ u1941 ≠ u0941 ∧ u2941 ≠ u0941 ∧ u2941 ≠ u1941 ∧ Ee3 Z h u0941 ∧ Ff9 Z h u0941 (.int 0) ∧ Ff10 Z h u0941 (.int 0) ∧ Ff11 Z h u0941 (.ref u1941) ∧ own_Ar Z h u1941 .int [(.int 0)] ∧ own_Ar Z h u2941 .int [(.int 0), (.int (D136_1 x0 x1)), (.int (D136_5 x0 x1 x2))] ∧ Ff9 Z h a3 (.int 2) ∧ Ff10 Z h a3 (.int 1) ∧ Ff11 Z h a3 (.ref u2941) ∧ own_Ar Z h o5 .int [(.int 0)] := by
 refine o_body own_pn34 k.1 (ef24 _ _ _) ?_
 intro p e s m b _ c T0 X0 j e0
 have N0 := Fr.nil n0
 have Z0 := own_Z0 O_0
 obtain ⟨hh0, q0⟩ := own_and hH
 refine o_aloadN X0 j (dc34 0 rfl) rfl rfl ?_
 refine o_aloadN X0 j (dc34 1 rfl) rfl rfl ?_
 refine o_aloadN X0 j (dc34 2 rfl) rfl rfl ?_
 refine o_iconstL X0 j (dc34 3 rfl) 1 ?_
 refine o_callV X0 j (ct137 a1 a2 a3 o3 o4 o5 x0 x1 x2 O_0 k E_0 (F0intLen) (F0offset) (F0value) E_1 (F1intLen) (F1offset) (F1value) E_2 (F2intLen) (F2offset) (F2value) G_2 A_3 A_4 A_5 G_5 ne_0_2 ne_0_5 ne_1_2 ne_1_5 ne_2_3 ne_2_4 ne_2_5 ne_3_5 ne_4_5 hh0) rfl rfl (pL21 rfl) (dc34 4 rfl) 186 187 189 188 190 166 ⟨rfl, rfl, rfl, rfl, rfl, rfl⟩ E_0 0 e0 ?_
 rintro _ T941 L941 X941 ⟨u0941, u1941, u2941, rfl, M941, K941, P0941, P1941, P2941, P3941, P4941, P5941, P6941, P7941, P8941, P9941, P10941, P11941, P12941, P13941, P14941, P15941⟩
 have N941 := Fr.app N0 M941
 have l941_0 := (ntr Z0 P0941)
 have l941_1 := (ntr Z0 P1941)
 have l941_2 := (ntr Z0 P2941)
 show oG p e b T941 m 7 #[sR a1, sR a2, sR a3] [(.ref u0941)] _
 exact o_retA X941 j (dc34 5 rfl) rfl ⟨u0941, u1941, u2941, rfl, N941, ((Keep.refl h0 [a3, o5]).trans K941 (allS (mI 0 rfl) (allS (mI 1 rfl) all0))), P0941, P1941, P2941, P3941, P4941, P5941, P6941, P7941, P8941, P9941, P10941, P11941, P12941, P13941, P14941, P15941⟩
theorem ct139 (a1 : Addr) (x0 x1 : Int32) (O_0 : Old Z n0 h0) (k : own_K Z a0 g) (A_0 : own_Ar Z h0 a1 .int [(.int 0), (.int x0), (.int x1)]) (G_0 : n0 ≤ a1) :
 mM47 l ws (oR 0 0 0 0) #[(.ref a1), (.int 0)] Z h0 fun v h L => v = none ∧ Fr n0 L ∧ Keep h0 h [a1] ∧ own_Ar Z h a1 .int [(.int 0), (.int 0), (.int 0)] := by
 refine o_body own_pn47 k.1 (ef16 _ _) ?_
 intro p e s m b _ c T0 X0 j e0
 have N0 := Fr.nil n0
 have Z0 := own_Z0 O_0
 refine o_iconstL X0 j (dc47 0 rfl) 0 ?_
 refine o_istoreN X0 j (dc47 1 rfl) (Ls' := #[sR a1, sI 0, sI 0, sU]) rfl ?_
 refine o_aloadN X0 j (dc47 2 rfl) rfl rfl ?_
 refine o_len X0 j (dc47 3 rfl) e0 A_0 3 ?_
 refine o_istoreN X0 j (dc47 4 rfl) (Ls' := #[sR a1, sI 0, sI 0, sI 3]) rfl ?_
 refine o_iloadN X0 j (dc47 5 rfl) rfl ?_
 refine o_iloadN X0 j (dc47 6 rfl) rfl ?_
 refine o_icmpNoD X0 j (dc47 7 rfl) ?_
 refine o_aloadN X0 j (dc47 8 rfl) rfl rfl ?_
 refine o_iloadN X0 j (dc47 9 rfl) rfl ?_
 refine o_iloadN X0 j (dc47 10 rfl) rfl ?_
 refine o_iastore X0 j (dc47 11 rfl) e0 A_0 (.int 0) fun T942 h942 X942 e942 W942 A942 => ?_
 have B942 : own_Ar Z h942 a1 .int [(.int 0), (.int x0), (.int x1)] := A942
 have N942 := Fr.snoc X942 N0 G_0
 refine o_iinc X942 j (dc47 12 rfl) rfl (z := 1) (by decide) (Ls' := #[sR a1, sI 0, sI 1, sI 3]) rfl ?_
 refine o_goto X942 j (dc47 13 rfl) 5 ?_
 refine o_iloadN X942 j (dc47 5 rfl) rfl ?_
 refine o_iloadN X942 j (dc47 6 rfl) rfl ?_
 refine o_icmpNoD X942 j (dc47 7 rfl) ?_
 refine o_aloadN X942 j (dc47 8 rfl) rfl rfl ?_
 refine o_iloadN X942 j (dc47 9 rfl) rfl ?_
 refine o_iloadN X942 j (dc47 10 rfl) rfl ?_
 refine o_iastore X942 j (dc47 11 rfl) e942 B942 (.int x0) fun T943 h943 X943 e943 W943 A943 => ?_
 have B943 : own_Ar Z h943 a1 .int [(.int 0), (.int 0), (.int x1)] := A943
 have N943 := Fr.snoc X943 N942 G_0
 refine o_iinc X943 j (dc47 12 rfl) rfl (z := 2) (by decide) (Ls' := #[sR a1, sI 0, sI 2, sI 3]) rfl ?_
 refine o_goto X943 j (dc47 13 rfl) 5 ?_
 refine o_iloadN X943 j (dc47 5 rfl) rfl ?_
 refine o_iloadN X943 j (dc47 6 rfl) rfl ?_
 refine o_icmpNoD X943 j (dc47 7 rfl) ?_
 refine o_aloadN X943 j (dc47 8 rfl) rfl rfl ?_
 refine o_iloadN X943 j (dc47 9 rfl) rfl ?_
 refine o_iloadN X943 j (dc47 10 rfl) rfl ?_
 refine o_iastore X943 j (dc47 11 rfl) e943 B943 (.int x1) fun T944 h944 X944 e944 W944 A944 => ?_
 have B944 : own_Ar Z h944 a1 .int [(.int 0), (.int 0), (.int 0)] := A944
 have N944 := Fr.snoc X944 N943 G_0
 refine o_iinc X944 j (dc47 12 rfl) rfl (z := 3) (by decide) (Ls' := #[sR a1, sI 0, sI 3, sI 3]) rfl ?_
 refine o_goto X944 j (dc47 13 rfl) 5 ?_
 refine o_iloadN X944 j (dc47 5 rfl) rfl ?_
 refine o_iloadN X944 j (dc47 6 rfl) rfl ?_
 refine o_icmpYesD X944 j (dc47 7 rfl) 20 ?_
 exact o_retV X944 j (dc47 14 rfl) e944 ⟨rfl, N944, ((((Keep.refl h0 [a1]).wr W942 (mI 0 rfl)).wr W943 (mI 0 rfl)).wr W944 (mI 0 rfl)), B944⟩
theorem ct140 (a1 o1 : Addr) (x0 x1 : Int32) (O_0 : Old Z n0 h0) (k : own_K Z a0 g) (E_0 : Ee3 Z h0 a1) (F0intLen : Ff9 Z h0 a1 (.int 2)) (F0offset : Ff10 Z h0 a1 (.int 1)) (F0value : Ff11 Z h0 a1 (.ref o1)) (G_0 : n0 ≤ a1) (A_1 : own_Ar Z h0 o1 .int [(.int 0), (.int x0), (.int x1)]) (G_1 : n0 ≤ o1) (ne_0_1 : a1 ≠ o1) :
 mM42 l ws (oR 3 1 2 54) #[(.ref a1)] Z h0 fun v h L => ∃ (u0950 : Addr), v = some (.ref u0950) ∧ Fr n0 L ∧ Keep h0 h [a1, o1] ∧ h0.size ≤ u0950 ∧ own_Ar Z h u0950 .int [(.int x0), (.int x1)] ∧ Ff9 Z h a1 (.int 2) ∧ Ff10 Z h a1 (.int 0) ∧ Ff11 Z h a1 (.ref u0950) ∧ own_Ar Z h o1 .int [(.int 0), (.int 0), (.int 0)] := by
 refine o_body own_pn42 k.1 (ef28 _) ?_
 intro p e s m b _ c T0 X0 j e0
 have N0 := Fr.nil n0
 have Z0 := own_Z0 O_0
 refine o_aloadN X0 j (dc42 0 rfl) rfl rfl ?_
 refine o_getF X0 j (dc42 1 rfl) 172 rfl e0 F0offset fun T945 X945 e945 => ?_
 refine o_ifYesD X945 j (dc42 2 rfl) 19 ?_
 refine o_aloadN X945 j (dc42 9 rfl) rfl rfl ?_
 refine o_getF X945 j (dc42 10 rfl) 174 rfl e945 F0value fun T946 X946 e946 => ?_
 refine o_aloadN X946 j (dc42 11 rfl) rfl rfl ?_
 refine o_getF X946 j (dc42 12 rfl) 172 rfl e946 F0offset fun T947 X947 e947 => ?_
 refine o_aloadN X947 j (dc42 13 rfl) rfl rfl ?_
 refine o_getF X947 j (dc42 14 rfl) 172 rfl e947 F0offset fun T948 X948 e948 => ?_
 refine o_aloadN X948 j (dc42 15 rfl) rfl rfl ?_
 refine o_getF X948 j (dc42 16 rfl) 176 rfl e948 F0intLen fun T949 X949 e949 => ?_
 refine o_iaddL X949 j (dc42 17 rfl) 3 ?_
 refine o_callS X949 j (ct119 o1 (0 : Int32) x0 x1 O_0 k A_1) rfl rfl (pL24 rfl) (dc42 18 rfl) 230 231 232 233 ⟨rfl, rfl, rfl, rfl⟩ 0 e949 ?_
 rintro _ T950 L950 X950 ⟨u0950, rfl, M950, K950, P0950, P1950⟩
 have N950 := Fr.app N0 M950
 have l950_0 := (ntr Z0 P0950)
 show oG p e b T950 m 39 #[sR a1, sU] [(.ref u0950)] _
 refine o_astoreN X950 j (dc42 19 rfl) rfl (Ls' := #[sR a1, sR u0950]) rfl ?_
 refine o_aloadN X950 j (dc42 20 rfl) rfl rfl ?_
 refine o_getF X950 j (dc42 21 rfl) 174 rfl rfl (F0value.keep K950 nin0) fun T951 X951 e951 => ?_
 refine o_iconstL X951 j (dc42 22 rfl) 0 ?_
 refine o_callS X951 j (ct139 o1 x0 x1 ((O_0.keep K950 all0)) k ((A_1.keep K950 nin0)) G_1) rfl rfl (pL25 rfl) (dc42 23 rfl) 247 248 232 249 ⟨rfl, rfl, rfl, rfl⟩ 0 e951 ?_
 rintro _ T952 L952 X952 ⟨rfl, M952, K952, P0952⟩
 have N952 := Fr.app N950 M952
 show oG p e b T952 m 48 #[sR a1, sR u0950] [] _
 refine o_aloadN X952 j (dc42 24 rfl) rfl rfl ?_
 refine o_iconstL X952 j (dc42 25 rfl) 0 ?_
 have y954 := ((F0offset.keep K950 nin0).keep K952 (ninS ne_0_1 nin0))
 refine o_put X952 j (dc42 26 rfl) 172 173 165 ⟨rfl, rfl, rfl⟩ .int rfl y954 ((E_0.keep K950).keep K952) fun T953 h953 X953 e953 W953 => ?_
 have F953 := y954.same W953
 have N953 := Fr.snoc X953 N952 G_0
 refine o_aloadN X953 j (dc42 27 rfl) rfl rfl ?_
 refine o_aloadN X953 j (dc42 28 rfl) rfl rfl ?_
 have d955 := (nne (nlt A_1.lt P0950))
 have d956 := (Ne.symm d955)
 have d957 := (nne (nlt E_0.lt P0950))
 have d958 := (Ne.symm d957)
 have y959 := ((P1950.keep K952 (ninS d956 nin0)).other W953 d958)
 refine o_len X953 j (dc42 29 rfl) e953 y959 2 ?_
 have y961 := (((F0intLen.keep K950 nin0).keep K952 (ninS ne_0_1 nin0)).other W953 (Or.inr (sn17 k)))
 refine o_put X953 j (dc42 30 rfl) 176 177 165 ⟨rfl, rfl, rfl⟩ .int e953 y961 (((E_0.keep K950).keep K952).wr W953) fun T960 h960 X960 e960 W960 => ?_
 have F960 := y961.same W960
 have N960 := Fr.snoc X960 N953 G_0
 refine o_aloadN X960 j (dc42 31 rfl) rfl rfl ?_
 refine o_aloadN X960 j (dc42 32 rfl) rfl rfl ?_
 have y963 := ((((F0value.keep K950 nin0).keep K952 (ninS ne_0_1 nin0)).other W953 (Or.inr (sn16 k))).other W960 (Or.inr (sn21 k)))
 have y964 := ((((E_0.keep K950).keep K952).wr W953).wr W960)
 refine o_put X960 j (dc42 33 rfl) 174 175 165 ⟨rfl, rfl, rfl⟩ (.array .int) e960 y963 y964 fun T962 h962 X962 e962 W962 => ?_
 have F962 := y963.same W962
 have N962 := Fr.snoc X962 N960 G_0
 refine o_aloadN X962 j (dc42 34 rfl) rfl rfl ?_
 refine o_getF X962 j (dc42 35 rfl) 174 rfl e962 F962 fun T965 X965 e965 => ?_
 have y966 := (F960.other W962 (Or.inr (sn18 k)))
 have y967 := ((F953.other W960 (Or.inr (sn20 k))).other W962 (Or.inr (sn19 k)))
 have y968 := (((P0952.other W953 (Ne.symm ne_0_1)).other W960 (Ne.symm ne_0_1)).other W962 (Ne.symm ne_0_1))
 exact o_retA X965 j (dc42 36 rfl) e965 ⟨u0950, rfl, N962, ((((((Keep.refl h0 [a1, o1]).trans K950 all0).trans K952 (allS (mI 1 rfl) all0)).wr W953 (mI 0 rfl)).wr W960 (mI 0 rfl)).wr W962 (mI 0 rfl)), P0950, ((y959.other W960 d958).other W962 d958), y966, y967, F962, y968⟩
theorem ct141 (a1 o1 : Addr) (x0 x1 : Int32) (O_0 : Old Z n0 h0) (k : own_K Z a0 g) (E_0 : Ee3 Z h0 a1) (F0intLen : Ff9 Z h0 a1 (.int 2)) (F0offset : Ff10 Z h0 a1 (.int 1)) (F0value : Ff11 Z h0 a1 (.ref o1)) (G_0 : n0 ≤ a1) (A_1 : own_Ar Z h0 o1 .int [(.int 0), (.int x0), (.int x1)]) (G_1 : n0 ≤ o1) (ne_0_1 : a1 ≠ o1) :
 mM41 l ws (oR 4 2 8 69) #[(.ref a1), (.int 1)] Z h0 fun v h L => ∃ (b970 : Addr) (u0971 : Addr), v = some (.ref b970) ∧ Fr n0 L ∧ Keep h0 h [a1, o1] ∧ h0.size ≤ b970 ∧ h0.size ≤ u0971 ∧ u0971 ≠ b970 ∧ Ee0 Z h b970 ∧ Ff8 Z h b970 (.int 0) ∧ Ff1 Z h b970 (.ref u0971) ∧ Ff0 Z h b970 (.int 1) ∧ own_Ar Z h u0971 .int [(.int x0), (.int x1)] ∧ Ff9 Z h a1 (.int 2) ∧ Ff10 Z h a1 (.int 0) ∧ Ff11 Z h a1 (.ref u0971) ∧ own_Ar Z h o1 .int [(.int 0), (.int 0), (.int 0)] := by
 refine o_body own_pn41 k.1 (ef30 _ _) ?_
 intro p e s m b _ c T0 X0 j e0
 have N0 := Fr.nil n0
 have Z0 := own_Z0 O_0
 refine o_aloadN X0 j (dc41 0 rfl) rfl rfl ?_
 refine o_getF X0 j (dc41 1 rfl) 176 rfl e0 F0intLen fun T969 X969 e969 => ?_
 refine o_ifNoD X969 j (dc41 2 rfl) ?_
 refine o_iloadN X969 j (dc41 3 rfl) rfl ?_
 refine o_ifYesD X969 j (dc41 4 rfl) 15 ?_
 refine o_new X969 j (dc41 7 rfl) 224 140 136 ⟨rfl, rfl, rfl⟩ e969 fun T970 h970 b970 X970 e970 g970 E970 A970 D970 => ?_
 have F970_signum : Ff0 Z h970 b970 (.int 0) := D970 (Or.inr (ot k 148 rfl)) (ty := .int) (by decide)
 have F970_mag : Ff1 Z h970 b970 .null := D970 (Or.inr (ot k 151 rfl)) (ty := (.array .int)) (by decide)
 have F970_bitLengthPlusOne : Ff8 Z h970 b970 (.int 0) := D970 (Or.inl (ot k 261 rfl)) (ty := .int) (by decide)
 have z970 := ntr (Nat.le_refl _) (nqs g970)
 have l970 := (ntr Z0 z970)
 refine o_dup X970 j (dc41 8 rfl) rfl ?_
 refine o_aloadN X970 j (dc41 9 rfl) rfl rfl ?_
 refine o_callPv X970 j (ct140 a1 o1 x0 x1 ((O_0.ext E970)) k ((E_0.ext E970)) ((F0intLen.ext E970)) ((F0offset.ext E970)) ((F0value.ext E970)) G_0 ((A_1.ext E970)) G_1 ne_0_1) rfl rfl (pL26 rfl) (dc41 10 rfl) 225 227 228 226 229 166 ⟨rfl, rfl, rfl, rfl, rfl, rfl⟩ (E_0.ext E970) 2 e970 ?_
 rintro _ T971 L971 X971 ⟨u0971, rfl, M971, K971, P0971, P1971, P2971, P3971, P4971, P5971⟩
 have N971 := Fr.app N0 M971
 have l971_0 := (ntr Z0 (ntr E970.1 P0971))
 show oG p e b T971 m 23 #[sR a1, sI 1] [(.ref u0971), (.ref b970), (.ref b970)] _
 refine o_iloadN X971 j (dc41 11 rfl) rfl ?_
 have y972 := ((O_0.ext E970).keep K971 (allS G_0 (allS G_1 all0)))
 have d973 := (nne (nlt A_1.lt (nqs g970)))
 have d974 := (Ne.symm d973)
 have d975 := (nne (nlt E_0.lt (nqs g970)))
 have d976 := (Ne.symm d975)
 have y977 := (F970_bitLengthPlusOne.keep K971 (ninS d976 (ninS d974 nin0)))
 have y978 := (F970_mag.keep K971 (ninS d976 (ninS d974 nin0)))
 have y979 := (F970_signum.keep K971 (ninS d976 (ninS d974 nin0)))
 have d980 := (nne (nlt A970.lt P0971))
 refine o_callSp X971 j (ct104 b970 u0971 x0 x1 y972 k ((A970.keep K971)) y977 y978 y979 l970 P1971 d980) rfl rfl (pL25 rfl) (dc41 12 rfl) 250 251 252 136 ⟨rfl, rfl, rfl, rfl⟩ 1 rfl ?_
 rintro _ T981 L981 X981 ⟨rfl, M981, K981, P0981, P1981, P2981⟩
 have N981 := Fr.app N971 M981
 show oG p e b T981 m 27 #[sR a1, sI 1] [(.ref b970)] _
 exact o_retA X981 j (dc41 13 rfl) rfl ⟨b970, u0971, rfl, N981, ((((Keep.refl h0 [a1, o1]).ext E970).trans K971 (allS (mI 0 rfl) (allS (mI 1 rfl) all0))).trans K981 (allS (Or.inr z970) all0)), z970, (ntr E970.1 P0971), (Ne.symm d980), ((A970.keep K971).keep K981), P0981, P1981, P2981, (P1971.keep K981 (ninS (Ne.symm d980) nin0)), (P2971.keep K981 (ninS d975 nin0)), (P3971.keep K981 (ninS d975 nin0)), (P4971.keep K981 (ninS d975 nin0)), (P5971.keep K981 (ninS d973 nin0))⟩
def H142 (x0 : Int32) (x1 : Int32) (x2 : Int32) : Bool := (H138 x0 x1 x2) && true
theorem ct142 (a1 a2 o2 o3 : Addr) (x0 x1 x2 : Int32) (O_0 : Old Z n0 h0) (k : own_K Z a0 g) (E_0 : Ee0 Z h0 a1) (F0mag : Ff1 Z h0 a1 (.ref o2)) (F0signum : Ff0 Z h0 a1 (.int 1)) (E_1 : Ee0 Z h0 a2) (F1mag : Ff1 Z h0 a2 (.ref o3)) (F1signum : Ff0 Z h0 a2 (.int 1)) (A_2 : own_Ar Z h0 o2 .int [(.int x0), (.int x1), (.int x2)]) (A_3 : own_Ar Z h0 o3 .int [(.int 1000000000)]) (hH : H142 x0 x1 x2 = true) :
 mM31 l ws (oR 5 10 27 84) #[(.ref a1), (.ref a2)] Z h0 fun v h L => ∃ (b982 : Addr) (u01037 : Addr) (u11037 : Addr), v = some (.ref b982) ∧ Fr n0 L ∧ Keep h0 h [] ∧ h0.size ≤ b982 ∧ h0.size ≤ u01037 ∧ h0.size ≤ u11037 ∧ u01037 ≠ b982 ∧ u11037 ≠ b982 ∧ u11037 ≠ u01037 ∧ own_Ra Z h b982 "java/math/BigInteger" [(.ref u01037), (.ref (g 0))] ∧ Ee0 Z h u01037 ∧ Ff8 Z h u01037 (.int 0) ∧ Ff1 Z h u01037 (.ref u11037) ∧ Ff0 Z h u01037 (.int 1) ∧ own_Ar Z h u11037 .int [(.int (D136_1 x0 x1)), (.int (D136_5 x0 x1 x2))] := by
 refine o_body own_pn31 k.1 (ef31 _ _) ?_
 intro p e s m b _ c T0 X0 j e0
 obtain ⟨hx, hby, hml, hown, hnm, hret, hlk, hZ, hw⟩ := id j
 have N0 := Fr.nil n0
 have Z0 := own_Z0 O_0
 obtain ⟨hh0, q0⟩ := own_and hH
 refine o_iconstL X0 j (dc31 0 rfl) 2 ?_
 refine own_newR X0 hx hby (dc31 1 rfl).1 (pc' := 4) rfl hZ hown (ot k 139 rfl) (ot k 163 rfl) e0 (by decide) (cap := 2) (by decide) (by decide) (by decide) (by decide) rfl (vs := [.null, .null]) (by rfl) ?_
 intro T982 h982 b982 X982 e982 g982 E982 R982 C982
 have z982 := ntr (Nat.le_refl _) (nqs g982)
 have l982 := (ntr Z0 z982)
 refine o_astoreN X982 j (dc31 2 rfl) rfl (Ls' := #[sR a1, sR a2, sR b982, sU, sU, sU, sU]) rfl ?_
 refine o_new X982 j (dc31 3 rfl) 164 165 166 ⟨rfl, rfl, rfl⟩ e982 fun T983 h983 b983 X983 e983 g983 E983 A983 D983 => ?_
 have F983_offset : Ff10 Z h983 b983 (.int 0) := D983 (Or.inl (ot k 173 rfl)) (ty := .int) (by decide)
 have F983_value : Ff11 Z h983 b983 .null := D983 (Or.inl (ot k 175 rfl)) (ty := (.array .int)) (by decide)
 have F983_intLen : Ff9 Z h983 b983 (.int 0) := D983 (Or.inl (ot k 177 rfl)) (ty := .int) (by decide)
 have z983 := ntr E982.1 (nqs g983)
 have l983 := (ntr Z0 z983)
 refine o_dup X983 j (dc31 4 rfl) rfl ?_
 refine o_callSp X983 j (ct31 b983 (((O_0.ext E982).ext E983)) k A983 (F983_intLen) (F983_offset) (F983_value) l983) rfl rfl (pL3 rfl) (dc31 5 rfl) 167 168 170 166 ⟨rfl, rfl, rfl, rfl⟩ 1 e983 ?_
 rintro _ T984 L984 X984 ⟨u0984, rfl, M984, K984, P0984, P1984, P2984, P3984, P4984⟩
 have N984 := Fr.app N0 M984
 have l984_0 := (ntr Z0 (ntr (ntr (ntr z983 (Nat.le_of_eq g983)) E983.1) P0984))
 show oG p e b T984 m 12 #[sR a1, sR a2, sR b982, sU, sU, sU, sU] [(.ref b983)] _
 refine o_astoreN X984 j (dc31 6 rfl) rfl (Ls' := #[sR a1, sR a2, sR b982, sR b983, sU, sU, sU]) rfl ?_
 refine o_new X984 j (dc31 7 rfl) 164 165 166 ⟨rfl, rfl, rfl⟩ rfl fun T985 h985 b985 X985 e985 g985 E985 A985 D985 => ?_
 have F985_offset : Ff10 Z h985 b985 (.int 0) := D985 (Or.inl (ot k 173 rfl)) (ty := .int) (by decide)
 have F985_value : Ff11 Z h985 b985 .null := D985 (Or.inl (ot k 175 rfl)) (ty := (.array .int)) (by decide)
 have F985_intLen : Ff9 Z h985 b985 (.int 0) := D985 (Or.inl (ot k 177 rfl)) (ty := .int) (by decide)
 have z985 := ntr (ntr (ntr (ntr z983 (Nat.le_of_eq g983)) E983.1) K984.1) (nqs g985)
 have l985 := (ntr Z0 z985)
 refine o_dup X985 j (dc31 8 rfl) rfl ?_
 refine o_aloadN X985 j (dc31 9 rfl) rfl rfl ?_
 have d986 := (nne (nlt (nlt E_0.lt E982.1) (nqs g983)))
 have y987 := ((((F0mag.ext E982).ext E983).keep K984 (ninS d986 nin0)).ext E985)
 refine o_getF X985 j (dc31 10 rfl) 150 rfl e985 y987 fun T988 X988 e988 => ?_
 have y989 := ((((O_0.ext E982).ext E983).keep K984 (allS l983 all0)).ext E985)
 have d990 := (nne (nlt (nlt A_2.lt E982.1) (nqs g983)))
 have y991 := ((((A_2.ext E982).ext E983).keep K984 (ninS d990 nin0)).ext E985)
 have d992 := (nne (nlt (nlt (nlt (nlt A_2.lt E982.1) E983.1) K984.1) (nqs g985)))
 have d993 := (Ne.symm d992)
 refine o_callSp X988 j (ct134 b985 o2 x0 x1 x2 y989 k A985 (F985_intLen) (F985_offset) (F985_value) l985 y991 d993) rfl rfl (pL27 rfl) (dc31 11 rfl) 178 179 180 166 ⟨rfl, rfl, rfl, rfl⟩ 1 e988 ?_
 rintro _ T994 L994 X994 ⟨rfl, M994, K994, P0994, P1994, P2994⟩
 have N994 := Fr.app N984 M994
 show oG p e b T994 m 24 #[sR a1, sR a2, sR b982, sR b983, sU, sU, sU] [(.ref b985)] _
 refine o_astore X994 j (dc31 12 rfl) rfl (Ls' := #[sR a1, sR a2, sR b982, sR b983, sR b985, sU, sU]) rfl ?_
 refine o_new X994 j (dc31 13 rfl) 164 165 166 ⟨rfl, rfl, rfl⟩ rfl fun T995 h995 b995 X995 e995 g995 E995 A995 D995 => ?_
 have F995_offset : Ff10 Z h995 b995 (.int 0) := D995 (Or.inl (ot k 173 rfl)) (ty := .int) (by decide)
 have F995_value : Ff11 Z h995 b995 .null := D995 (Or.inl (ot k 175 rfl)) (ty := (.array .int)) (by decide)
 have F995_intLen : Ff9 Z h995 b995 (.int 0) := D995 (Or.inl (ot k 177 rfl)) (ty := .int) (by decide)
 have z995 := ntr (ntr (ntr (ntr z985 (Nat.le_of_eq g985)) E985.1) K994.1) (nqs g995)
 have l995 := (ntr Z0 z995)
 refine o_dup X995 j (dc31 14 rfl) rfl ?_
 refine o_aloadN X995 j (dc31 15 rfl) rfl rfl ?_
 have d996 := (nne (nlt (nlt E_1.lt E982.1) (nqs g983)))
 have d997 := (nne (nlt (nlt (nlt (nlt E_1.lt E982.1) E983.1) K984.1) (nqs g985)))
 have y998 := ((((((F1mag.ext E982).ext E983).keep K984 (ninS d996 nin0)).ext E985).keep K994 (ninS d997 nin0)).ext E995)
 refine o_getF X995 j (dc31 16 rfl) 150 rfl e995 y998 fun T999 X999 e999 => ?_
 have d1000 := (nne (nlt (nlt A_3.lt E982.1) (nqs g983)))
 have d1001 := (nne (nlt (nlt (nlt (nlt A_3.lt E982.1) E983.1) K984.1) (nqs g985)))
 have y1002 := ((((((A_3.ext E982).ext E983).keep K984 (ninS d1000 nin0)).ext E985).keep K994 (ninS d1001 nin0)).ext E995)
 have d1003 := (nne (nlt (nlt (nlt (nlt (nlt (nlt A_3.lt E982.1) E983.1) K984.1) E985.1) K994.1) (nqs g995)))
 have d1004 := (Ne.symm d1003)
 refine o_callSp X999 j (ct33 b995 o3 (((y989.keep K994 (allS l985 all0)).ext E995)) k A995 (F995_intLen) (F995_offset) (F995_value) l995 y1002 d1004) rfl rfl (pL27 rfl) (dc31 17 rfl) 178 179 180 166 ⟨rfl, rfl, rfl, rfl⟩ 1 e999 ?_
 rintro _ T1005 L1005 X1005 ⟨rfl, M1005, K1005, P01005, P11005, P21005⟩
 have N1005 := Fr.app N994 M1005
 show oG p e b T1005 m 37 #[sR a1, sR a2, sR b982, sR b983, sR b985, sU, sU] [(.ref b995)] _
 refine o_astore X1005 j (dc31 18 rfl) rfl (Ls' := #[sR a1, sR a2, sR b982, sR b983, sR b985, sR b995, sU]) rfl ?_
 refine o_aload X1005 j (dc31 19 rfl) rfl rfl ?_
 refine o_aload X1005 j (dc31 20 rfl) rfl rfl ?_
 refine o_aloadN X1005 j (dc31 21 rfl) rfl rfl ?_
 have y1006 := (((y989.keep K994 (allS l985 all0)).ext E995).keep K1005 (allS l995 all0))
 have d1007 := (nne (nlt (nlt A985.lt K994.1) (nqs g995)))
 have y1008 := ((P0994.ext E995).keep K1005 (ninS d1007 nin0))
 have y1009 := ((P1994.ext E995).keep K1005 (ninS d1007 nin0))
 have y1010 := ((P2994.ext E995).keep K1005 (ninS d1007 nin0))
 have y1011 := (((((A983.keep K984).ext E985).keep K994).ext E995).keep K1005)
 have d1012 := (nne (nlt (nlt A983.lt K984.1) (nqs g985)))
 have d1013 := (nne (nlt (nlt (nlt (nlt A983.lt K984.1) E985.1) K994.1) (nqs g995)))
 have y1014 := ((((P2984.ext E985).keep K994 (ninS d1012 nin0)).ext E995).keep K1005 (ninS d1013 nin0))
 have y1015 := ((((P3984.ext E985).keep K994 (ninS d1012 nin0)).ext E995).keep K1005 (ninS d1013 nin0))
 have y1016 := ((((P4984.ext E985).keep K994 (ninS d1012 nin0)).ext E995).keep K1005 (ninS d1013 nin0))
 have d1017 := (nne (nlt (nlt (nlt (nlt (nlt (nlt A_2.lt E982.1) E983.1) K984.1) E985.1) K994.1) (nqs g995)))
 have y1018 := (((y991.keep K994 (ninS d992 nin0)).ext E995).keep K1005 (ninS d1017 nin0))
 have d1019 := (nne (nlt P1984.lt (nqs g985)))
 have d1020 := (nne (nlt (nlt (nlt P1984.lt E985.1) K994.1) (nqs g995)))
 have y1021 := ((((P1984.ext E985).keep K994 (ninS d1019 nin0)).ext E995).keep K1005 (ninS d1020 nin0))
 have d1022 := (nne (nlt A983.lt P0984))
 have d1023 := (nne (nlt (nlt (nlt A_2.lt E982.1) E983.1) P0984))
 have d1024 := (nne (nlt (nlt (nlt A_3.lt E982.1) E983.1) P0984))
 refine o_callV X1005 j (ct138 b985 b995 b983 o2 o3 u0984 x0 x1 x2 y1006 k ((((A985.keep K994).ext E995).keep K1005)) y1008 y1009 y1010 ((A995.keep K1005)) P01005 P11005 P21005 y1011 y1014 y1015 y1016 l983 y1018 ((y1002.keep K1005 (ninS d1003 nin0))) y1021 l984_0 (Ne.symm d1012) (Ne.symm d1019) (Ne.symm d1013) (Ne.symm d1020) (Ne.symm d990) (Ne.symm d1000) d1022 d1023 d1024 hh0) rfl rfl (pL28 rfl) (dc31 22 rfl) 181 182 184 183 185 166 ⟨rfl, rfl, rfl, rfl, rfl, rfl⟩ (((A985.keep K994).ext E995).keep K1005) 0 rfl ?_
 rintro _ T1025 L1025 X1025 ⟨u01025, u11025, u21025, rfl, M1025, K1025, P01025, P11025, P21025, P31025, P41025, P51025, P61025, P71025, P81025, P91025, P101025, P111025, P121025, P131025, P141025, P151025⟩
 have N1025 := Fr.app N1005 M1025
 have l1025_0 := (ntr Z0 (ntr (ntr (ntr (ntr z995 (Nat.le_of_eq g995)) E995.1) K1005.1) P01025))
 have l1025_1 := (ntr Z0 (ntr (ntr (ntr (ntr z995 (Nat.le_of_eq g995)) E995.1) K1005.1) P11025))
 have l1025_2 := (ntr Z0 (ntr (ntr (ntr (ntr z995 (Nat.le_of_eq g995)) E995.1) K1005.1) P21025))
 show oG p e b T1025 m 47 #[sR a1, sR a2, sR b982, sR b983, sR b985, sR b995, sU] [(.ref u01025)] _
 refine o_astore X1025 j (dc31 23 rfl) rfl (Ls' := #[sR a1, sR a2, sR b982, sR b983, sR b985, sR b995, sR u01025]) rfl ?_
 refine o_aloadN X1025 j (dc31 24 rfl) rfl rfl ?_
 refine o_iconstL X1025 j (dc31 25 rfl) 0 ?_
 refine o_aloadN X1025 j (dc31 26 rfl) rfl rfl ?_
 refine o_aloadN X1025 j (dc31 27 rfl) rfl rfl ?_
 have d1026 := (nne (nlt (nlt (nlt (nlt E_0.lt E982.1) E983.1) K984.1) (nqs g985)))
 have d1027 := (nne (nlt (nlt (nlt (nlt (nlt (nlt E_0.lt E982.1) E983.1) K984.1) E985.1) K994.1) (nqs g995)))
 have d1028 := (nne (nlt (nlt (nlt E_0.lt E982.1) E983.1) P0984))
 have y1029 := ((((((((F0signum.ext E982).ext E983).keep K984 (ninS d986 nin0)).ext E985).keep K994 (ninS d1026 nin0)).ext E995).keep K1005 (ninS d1027 nin0)).keep K1025 (ninS d986 (ninS d1028 nin0)))
 refine o_getF X1025 j (dc31 28 rfl) 147 rfl rfl y1029 fun T1030 X1030 e1030 => ?_
 refine o_aloadN X1030 j (dc31 29 rfl) rfl rfl ?_
 have d1031 := (nne (nlt (nlt (nlt (nlt (nlt (nlt E_1.lt E982.1) E983.1) K984.1) E985.1) K994.1) (nqs g995)))
 have d1032 := (nne (nlt (nlt (nlt E_1.lt E982.1) E983.1) P0984))
 have y1033 := ((((((((F1signum.ext E982).ext E983).keep K984 (ninS d996 nin0)).ext E985).keep K994 (ninS d997 nin0)).ext E995).keep K1005 (ninS d1031 nin0)).keep K1025 (ninS d996 (ninS d1032 nin0)))
 refine o_getF X1030 j (dc31 30 rfl) 147 rfl e1030 y1033 fun T1034 X1034 e1034 => ?_
 refine o_icmpNoD X1034 j (dc31 31 rfl) ?_
 refine o_iconstL X1034 j (dc31 32 rfl) 1 ?_
 refine o_goto X1034 j (dc31 33 rfl) 68 ?_
 have y1035 := (y1006.keep K1025 (allS l983 (allS l984_0 all0)))
 have d1036 := (nne (nlt (nlt (nlt (nlt (nlt (nlt A983.lt K984.1) E985.1) K994.1) E995.1) K1005.1) P21025))
 refine o_callV X1034 j (ct141 b983 u21025 (D136_1 x0 x1) (D136_5 x0 x1 x2) y1035 k ((y1011.keep K1025)) P121025 P131025 P141025 l983 P111025 l1025_2 d1036) rfl rfl (pL29 rfl) (dc31 34 rfl) 219 220 222 221 223 166 ⟨rfl, rfl, rfl, rfl, rfl, rfl⟩ (y1011.keep K1025) 2 e1034 ?_
 rintro _ T1037 L1037 X1037 ⟨u01037, u11037, rfl, M1037, K1037, P01037, P11037, P21037, P31037, P41037, P51037, P61037, P71037, P81037, P91037, P101037, P111037⟩
 have N1037 := Fr.app N1025 M1037
 have l1037_0 := (ntr Z0 (ntr (ntr (ntr (ntr (ntr z995 (Nat.le_of_eq g995)) E995.1) K1005.1) K1025.1) P01037))
 have l1037_1 := (ntr Z0 (ntr (ntr (ntr (ntr (ntr z995 (Nat.le_of_eq g995)) E995.1) K1005.1) K1025.1) P11037))
 show oG p e b T1037 m 71 #[sR a1, sR a2, sR b982, sR b983, sR b985, sR b995, sR u01025] [(.ref u01037), (.int 0), (.ref b982)] _
 have d1039 := (nne (nlt R982.lt (nqs g983)))
 have d1040 := (nne (nlt (nlt (nlt R982.lt E983.1) K984.1) (nqs g985)))
 have d1041 := (nne (nlt (nlt (nlt (nlt (nlt R982.lt E983.1) K984.1) E985.1) K994.1) (nqs g995)))
 have d1042 := (nne (nlt (nlt R982.lt E983.1) P0984))
 have d1043 := (nne (nlt (nlt (nlt (nlt (nlt (nlt (nlt R982.lt E983.1) K984.1) E985.1) K994.1) E995.1) K1005.1) P21025))
 have y1044 := ((((((((R982.ext E983).keep K984 (ninS d1039 nin0)).ext E985).keep K994 (ninS d1040 nin0)).ext E995).keep K1005 (ninS d1041 nin0)).keep K1025 (ninS d1039 (ninS d1042 nin0))).keep K1037 (ninS d1039 (ninS d1043 nin0)))
 refine own_aastore X1037 hx hby (dc31 35 rfl).1 (pc' := 72) rfl hZ rfl y1044 (by decide) (w := .null) rfl (Or.inr ⟨_, rfl, (Ins.self P31037)⟩) ?_
 intro T1038 h1038 X1038 e1038 W1038 R1038
 have B1038 : own_Ra Z h1038 b982 "java/math/BigInteger" [(.ref u01037), .null] := R1038
 have N1038 := Fr.snoc X1038 N1037 l982
 refine o_aloadN X1038 j (dc31 36 rfl) rfl rfl ?_
 refine o_iconstL X1038 j (dc31 37 rfl) 1 ?_
 refine o_aload X1038 j (dc31 38 rfl) rfl rfl ?_
 refine o_aloadN X1038 j (dc31 39 rfl) rfl rfl ?_
 have d1045 := (nne (nlt (nlt (nlt (nlt (nlt (nlt (nlt (nlt E_0.lt E982.1) E983.1) K984.1) E985.1) K994.1) E995.1) K1005.1) P21025))
 have d1046 := (nne (nlt E_0.lt (nqs g982)))
 have y1047 := ((y1029.keep K1037 (ninS d986 (ninS d1045 nin0))).other W1038 (Or.inl d1046))
 refine o_getF X1038 j (dc31 40 rfl) 147 rfl e1038 y1047 fun T1048 X1048 e1048 => ?_
 have y1049 := ((y1035.keep K1037 (allS l983 (allS l1025_2 all0))).wr W1038 l982)
 have d1050 := (nne (nlt (nlt (nlt (nlt (nlt (nlt A983.lt K984.1) E985.1) K994.1) E995.1) K1005.1) P01025))
 have d1051 := (Ne.symm d1050)
 have d1052 := (nne (nlt (nlt (nlt (nlt (nlt (nlt (nlt R982.lt E983.1) K984.1) E985.1) K994.1) E995.1) K1005.1) P01025))
 have d1053 := (Ne.symm d1052)
 have y1054 := ((P71025.keep K1037 (ninS d1051 (ninS (Ne.symm P41025) nin0))).other W1038 (Or.inl d1053))
 refine o_callV X1048 j (ct50 u01025 y1049 k (((P61025.keep K1037).wr W1038)) y1054) rfl rfl (pL29 rfl) (dc31 41 rfl) 219 220 222 221 223 166 ⟨rfl, rfl, rfl, rfl, rfl, rfl⟩ ((P61025.keep K1037).wr W1038) 2 e1048 ?_
 rintro _ T1055 L1055 X1055 ⟨rfl, M1055, e1055⟩
 have N1055 := Fr.app N1038 M1055
 show oG p e b T1055 m 83 #[sR a1, sR a2, sR b982, sR b983, sR b985, sR b995, sR u01025] [(.ref (g 0)), (.int 1), (.ref b982)] _
 refine own_aastore X1055 hx hby (dc31 42 rfl).1 (pc' := 84) rfl hZ e1055 B1038 (by decide) (w := .null) rfl (Or.inr ⟨_, rfl, (Ins.self ((k7 k).ext y1049.2))⟩) ?_
 intro T1056 h1056 X1056 e1056 W1056 R1056
 have B1056 : own_Ra Z h1056 b982 "java/math/BigInteger" [(.ref u01037), (.ref (g 0))] := R1056
 have N1056 := Fr.snoc X1056 N1055 l982
 refine o_aloadN X1056 j (dc31 43 rfl) rfl rfl ?_
 have d1057 := (nne (nlt (nlt (nlt (nlt (nlt (nlt (nlt (nlt R982.lt E983.1) K984.1) E985.1) K994.1) E995.1) K1005.1) K1025.1) P01037))
 have d1058 := (Ne.symm d1057)
 have d1059 := (nne (nlt (nlt (nlt (nlt (nlt (nlt (nlt (nlt R982.lt E983.1) K984.1) E985.1) K994.1) E995.1) K1005.1) K1025.1) P11037))
 have d1060 := (Ne.symm d1059)
 have y1061 := ((P41037.other W1038 (Or.inl d1058)).other W1056 (Or.inl d1058))
 have y1062 := ((P51037.other W1038 (Or.inl d1058)).other W1056 (Or.inl d1058))
 have y1063 := ((P61037.other W1038 (Or.inl d1058)).other W1056 (Or.inl d1058))
 have y1064 := ((P71037.other W1038 d1060).other W1056 d1060)
 exact o_retA X1056 j (dc31 44 rfl) e1056 ⟨b982, u01037, u11037, rfl, N1056, ((((((((((((Keep.refl h0 []).ext E982).ext E983).trans K984 (allS (Or.inr z983) all0)).ext E985).trans K994 (allS (Or.inr z985) all0)).ext E995).trans K1005 (allS (Or.inr z995) all0)).trans K1025 (allS (Or.inr z983) (allS (Or.inr (ntr (ntr (ntr z983 (Nat.le_of_eq g983)) E983.1) P0984)) all0))).trans K1037 (allS (Or.inr z983) (allS (Or.inr (ntr (ntr (ntr (ntr z995 (Nat.le_of_eq g995)) E995.1) K1005.1) P21025)) all0))).wr W1038 (Or.inr z982)).wr W1056 (Or.inr z982)), z982, (ntr (ntr (ntr (ntr (ntr z995 (Nat.le_of_eq g995)) E995.1) K1005.1) K1025.1) P01037), (ntr (ntr (ntr (ntr (ntr z995 (Nat.le_of_eq g995)) E995.1) K1005.1) K1025.1) P11037), d1058, d1060, P21037, B1056, ((P31037.wr W1038).wr W1056), y1061, y1062, y1063, y1064⟩
def H143 (x0 : Int32) (x1 : Int32) (x2 : Int32) : Bool := (H142 x0 x1 x2) && true
theorem ct143 (a1 a2 o2 o3 : Addr) (x0 x1 x2 : Int32) (O_0 : Old Z n0 h0) (k : own_K Z a0 g) (E_0 : Ee0 Z h0 a1) (F0mag : Ff1 Z h0 a1 (.ref o2)) (F0signum : Ff0 Z h0 a1 (.int 1)) (E_1 : Ee0 Z h0 a2) (F1mag : Ff1 Z h0 a2 (.ref o3)) (F1signum : Ff0 Z h0 a2 (.int 1)) (A_2 : own_Ar Z h0 o2 .int [(.int x0), (.int x1), (.int x2)]) (A_3 : own_Ar Z h0 o3 .int [(.int 1000000000)]) (hH : H143 x0 x1 x2 = true) :
 mM30 l ws (oR 6 10 27 102) #[(.ref a1), (.ref a2)] Z h0 fun v h L => ∃ (u01066 : Addr) (u11066 : Addr) (u21066 : Addr), v = some (.ref u01066) ∧ Fr n0 L ∧ Keep h0 h [] ∧ h0.size ≤ u01066 ∧ h0.size ≤ u11066 ∧ h0.size ≤ u21066 ∧ u11066 ≠ u01066 ∧ u21066 ≠ u01066 ∧ u21066 ≠ u11066 ∧ own_Ra Z h u01066 "java/math/BigInteger" [(.ref u11066), (.ref (g 0))] ∧ Ee0 Z h u11066 ∧ Ff8 Z h u11066 (.int 0) ∧ Ff1 Z h u11066 (.ref u21066) ∧ Ff0 Z h u11066 (.int 1) ∧ own_Ar Z h u21066 .int [(.int (D136_1 x0 x1)), (.int (D136_5 x0 x1 x2))] := by
 refine o_body own_pn30 k.1 (ef12 _ _) ?_
 intro p e s m b _ c T0 X0 j e0
 have N0 := Fr.nil n0
 have Z0 := own_Z0 O_0
 obtain ⟨hh0, q0⟩ := own_and hH
 refine o_aloadN X0 j (dc30 0 rfl) rfl rfl ?_
 refine o_getF X0 j (dc30 1 rfl) 150 rfl e0 F1mag fun T1065 X1065 e1065 => ?_
 refine o_len X1065 j (dc30 2 rfl) e1065 A_3 1 ?_
 refine o_bipushL X1065 j (dc30 3 rfl) 80 ?_
 refine o_icmpYesD X1065 j (dc30 4 rfl) 26 ?_
 refine o_aloadN X1065 j (dc30 5 rfl) rfl rfl ?_
 refine o_aloadN X1065 j (dc30 6 rfl) rfl rfl ?_
 refine o_callPv X1065 j (ct142 a1 a2 o2 o3 x0 x1 x2 O_0 k E_0 (F0mag) (F0signum) E_1 (F1mag) (F1signum) A_2 A_3 hh0) rfl rfl (pL30 rfl) (dc30 7 rfl) 158 160 161 159 162 136 ⟨rfl, rfl, rfl, rfl, rfl, rfl⟩ E_0 0 e1065 ?_
 rintro _ T1066 L1066 X1066 ⟨u01066, u11066, u21066, rfl, M1066, K1066, P01066, P11066, P21066, P31066, P41066, P51066, P61066, P71066, P81066, P91066, P101066, P111066⟩
 have N1066 := Fr.app N0 M1066
 have l1066_0 := (ntr Z0 P01066)
 have l1066_1 := (ntr Z0 P11066)
 have l1066_2 := (ntr Z0 P21066)
 show oG p e b T1066 m 31 #[sR a1, sR a2] [(.ref u01066)] _
 exact o_retA X1066 j (dc30 8 rfl) rfl ⟨u01066, u11066, u21066, rfl, N1066, ((Keep.refl h0 []).trans K1066 all0), P01066, P11066, P21066, P31066, P41066, P51066, P61066, P71066, P81066, P91066, P101066, P111066⟩
def H144 (x0 : Int32) (x1 : Int32) (x2 : Int32) : Bool := (H143 x0 x1 x2) && (decide (¬ (63 : Int32) < (D108_0 (D136_1 x0 x1))) && ((H95 (D111_1 (D136_1 x0 x1) (D136_5 x0 x1 x2))) && true))
def R144_0 (x0 : Int32) (x1 : Int32) (x2 : Int32) : Int64 := ((D111_1 (D136_1 x0 x1) (D136_5 x0 x1 x2)) + (0 : Int64))
theorem ct144 (a1 o1 o2 : Addr) (x0 x1 x2 : Int32) (O_0 : Old Z n0 h0) (k : own_K Z a0 g) (E_0 : Ee1 Z h0 a1) (F0intCompact : Ff2 Z h0 a1 (.long (-9223372036854775808))) (F0intVal : Ff6 Z h0 a1 (.ref o1)) (F0scale : Ff3 Z h0 a1 (.int 9)) (E_1 : Ee0 Z h0 o1) (F1mag : Ff1 Z h0 o1 (.ref o2)) (F1signum : Ff0 Z h0 o1 (.int 1)) (A_2 : own_Ar Z h0 o2 .int [(.int x0), (.int x1), (.int x2)]) (hH : H144 x0 x1 x2 = true) :
 mM23 l ws (oR 7 12 34 115) #[(.ref a1)] Z h0 fun v h L => ∃ (u01076 : Addr), v = some (.ref u01076) ∧ Fr n0 L ∧ Keep h0 h [] ∧ h0.size ≤ u01076 ∧ Ee2 Z h u01076 ∧ Ff5 Z h u01076 (.int 0) ∧ Ff4 Z h u01076 (.long (R144_0 x0 x1 x2)) := by
 refine o_body own_pn23 k.1 (ef20 _) ?_
 intro p e s m b _ c T0 X0 j e0
 have N0 := Fr.nil n0
 have Z0 := own_Z0 O_0
 obtain ⟨hh0, q0⟩ := own_and hH
 obtain ⟨hh1, q1⟩ := o_ad q0
 obtain ⟨hh2, q2⟩ := own_and q1
 refine o_aloadN X0 j (dc23 0 rfl) rfl rfl ?_
 refine o_bipushL X0 j (dc23 1 rfl) 9 ?_
 refine o_callV X0 j (ct124 a1 o1 O_0 k E_0 (F0intCompact) (F0intVal) (F0scale) E_1) rfl rfl (pL1 rfl) (dc23 2 rfl) 114 115 117 116 118 34 ⟨rfl, rfl, rfl, rfl, rfl, rfl⟩ E_0 0 e0 ?_
 rintro _ T1067 L1067 X1067 ⟨u01067, rfl, M1067, K1067, P01067, P11067, P21067, P31067, P41067, P51067⟩
 have N1067 := Fr.app N0 M1067
 have l1067_0 := (ntr Z0 P01067)
 show oG p e b T1067 m 6 #[sR a1, sU, sU] [(.ref u01067)] _
 refine o_callV X1067 j (ct126 u01067 o1 ((O_0.keep K1067 all0)) k P11067 P31067 P51067 ((E_1.keep K1067))) rfl rfl (pL17 rfl) (dc23 3 rfl) 119 120 122 121 123 34 ⟨rfl, rfl, rfl, rfl, rfl, rfl⟩ P11067 0 rfl ?_
 rintro _ T1068 L1068 X1068 ⟨rfl, M1068, e1068⟩
 have N1068 := Fr.app N1067 M1068
 show oG p e b T1068 m 9 #[sR a1, sU, sU] [(.ref o1)] _
 refine o_astoreN X1068 j (dc23 4 rfl) rfl (Ls' := #[sR a1, sR o1, sU]) rfl ?_
 refine o_aloadN X1068 j (dc23 5 rfl) rfl rfl ?_
 refine o_getS X1068 j (dc23 6 rfl) 152 rfl e1068 ((k4 k).ext ((O_0.keep K1067 all0)).2) fun T1069 X1069 e1069 => ?_
 refine o_callV X1069 j (ct143 o1 (g 54) o2 (g 55) x0 x1 x2 ((O_0.keep K1067 all0)) k ((E_1.keep K1067)) ((F1mag.keep K1067 nin0)) ((F1signum.keep K1067 nin0)) (((k30 k).ext ((O_0.keep K1067 all0)).2)) (((k32 k).ext ((O_0.keep K1067 all0)).2)) (((k31 k).ext ((O_0.keep K1067 all0)).2)) ((A_2.keep K1067 nin0)) (((k33 k).ext ((O_0.keep K1067 all0)).2)) hh0) rfl rfl (pL30 rfl) (dc23 7 rfl) 153 154 156 155 157 136 ⟨rfl, rfl, rfl, rfl, rfl, rfl⟩ (E_1.keep K1067) 0 e1069 ?_
 rintro _ T1070 L1070 X1070 ⟨u01070, u11070, u21070, rfl, M1070, K1070, P01070, P11070, P21070, P31070, P41070, P51070, P61070, P71070, P81070, P91070, P101070, P111070⟩
 have N1070 := Fr.app N1068 M1070
 have l1070_0 := (ntr Z0 (ntr K1067.1 P01070))
 have l1070_1 := (ntr Z0 (ntr K1067.1 P11070))
 have l1070_2 := (ntr Z0 (ntr K1067.1 P21070))
 show oG p e b T1070 m 17 #[sR a1, sR o1, sU] [(.ref u01070)] _
 refine o_astoreN X1070 j (dc23 8 rfl) rfl (Ls' := #[sR a1, sR o1, sR u01070]) rfl ?_
 refine o_aloadN X1070 j (dc23 9 rfl) rfl rfl ?_
 refine o_iconstL X1070 j (dc23 10 rfl) 0 ?_
 refine o_aaload X1070 j (dc23 11 rfl) rfl (P61070.ar) (.ref u11070) ?_
 refine o_callV X1070 j (ct108 u11070 u21070 (D136_1 x0 x1) (D136_5 x0 x1 x2) (((O_0.keep K1067 all0).keep K1070 all0)) k P71070 P81070 P91070 P101070 l1070_1 P111070) rfl rfl (pL31 rfl) (dc23 12 rfl) 255 256 258 257 259 136 ⟨rfl, rfl, rfl, rfl, rfl, rfl⟩ P71070 0 rfl ?_
 rintro _ T1071 L1071 X1071 ⟨rfl, M1071, K1071, P01071, P11071, P21071⟩
 have N1071 := Fr.app N1070 M1071
 show oG p e b T1071 m 24 #[sR a1, sR o1, sR u01070] [(.int (D108_0 (D136_1 x0 x1)))] _
 refine o_bipushL X1071 j (dc23 13 rfl) 63 ?_
 refine o_icmpYes X1071 j (dc23 14 rfl) 57 (flt hh1).2.2.2 ?_
 refine o_aloadN X1071 j (dc23 15 rfl) rfl rfl ?_
 refine o_iconstL X1071 j (dc23 16 rfl) 0 ?_
 have y1072 := (P61070.keep K1071 (ninS (Ne.symm P31070) nin0))
 refine o_aaload X1071 j (dc23 17 rfl) rfl (y1072.ar) (.ref u11070) ?_
 have y1073 := (((O_0.keep K1067 all0).keep K1070 all0).keep K1071 (allS l1070_1 all0))
 refine o_callV X1071 j (ct111 u11070 u21070 (D136_1 x0 x1) (D136_5 x0 x1 x2) y1073 k ((P71070.keep K1071)) P11071 P21071 ((P111070.keep K1071 (ninS P51070 nin0)))) rfl rfl (pL34 rfl) (dc23 18 rfl) 266 267 269 268 270 136 ⟨rfl, rfl, rfl, rfl, rfl, rfl⟩ (P71070.keep K1071) 0 rfl ?_
 rintro _ T1074 L1074 X1074 ⟨rfl, M1074, e1074⟩
 have N1074 := Fr.app N1071 M1074
 show oG p e b T1074 m 63 #[sR a1, sR o1, sR u01070] [(.long (D111_1 (D136_1 x0 x1) (D136_5 x0 x1 x2)))] _
 refine o_aloadN X1074 j (dc23 19 rfl) rfl rfl ?_
 refine o_iconstL X1074 j (dc23 20 rfl) 1 ?_
 refine o_aaload X1074 j (dc23 21 rfl) e1074 (y1072.ar) (.ref (g 0)) ?_
 refine o_callV X1074 j (ct60 (g 0) (g 1) y1073 k (((k7 k).ext y1073.2)) (((k9 k).ext y1073.2)) (((k8 k).ext y1073.2)) (((k10 k).ext y1073.2))) rfl rfl (pL31 rfl) (dc23 22 rfl) 282 283 285 284 286 136 ⟨rfl, rfl, rfl, rfl, rfl, rfl⟩ ((k7 k).ext y1073.2) 2 e1074 ?_
 rintro _ T1075 L1075 X1075 ⟨rfl, M1075, e1075⟩
 have N1075 := Fr.app N1074 M1075
 show oG p e b T1075 m 69 #[sR a1, sR o1, sR u01070] [(.int 0), (.long (D111_1 (D136_1 x0 x1) (D136_5 x0 x1 x2)))] _
 refine o_i2lL X1075 j (dc23 23 rfl) 0 ?_
 refine o_callS X1075 j (ct95 (D111_1 (D136_1 x0 x1) (D136_5 x0 x1 x2)) y1073 k hh2) rfl rfl (pL35 rfl) (dc23 24 rfl) 287 288 11 289 ⟨rfl, rfl, rfl, rfl⟩ 0 e1075 ?_
 rintro _ T1076 L1076 X1076 ⟨u01076, rfl, M1076, K1076, P01076, P11076, P21076, P31076⟩
 have N1076 := Fr.app N1075 M1076
 have l1076_0 := (ntr Z0 (ntr (ntr (ntr K1067.1 K1070.1) K1071.1) P01076))
 show oG p e b T1076 m 73 #[sR a1, sR o1, sR u01070] [(.ref u01076)] _
 exact o_retA X1076 j (dc23 25 rfl) rfl ⟨u01076, rfl, N1076, (((((Keep.refl h0 []).trans K1067 all0).trans K1070 all0).trans K1071 (allS (Or.inr (ntr K1067.1 P11070)) all0)).trans K1076 all0), (ntr (ntr (ntr K1067.1 K1070.1) K1071.1) P01076), P11076, P21076, P31076⟩
def H145 (x0 : Int64) : Bool := decide (¬ x0 = (0 : Int64)) && (decide (¬ x0 = (1 : Int64)) && ((H78 x0) && ((H133 x0) && ((H144 ((D131_4 x0).toInt32) ((D131_3 x0).toInt32) ((D131_1 x0).toInt32)) && true))))
def R145_0 (x0 : Int64) : Int64 := (R144_0 ((D131_4 x0).toInt32) ((D131_3 x0).toInt32) ((D131_1 x0).toInt32))
theorem ct145 (a1 : Addr) (x0 : Int64) (O_0 : Old Z n0 h0) (k : own_K Z a0 g) (E_0 : Ee2 Z h0 a1) (F0nanos : Ff5 Z h0 a1 (.int 0)) (F0seconds : Ff4 Z h0 a1 (.long 4)) (hH : H145 x0 = true) :
 mM2 l ws (oR 8 19 65 129) #[(.ref a1), (.long x0)] Z h0 fun v h L => ∃ (u01081 : Addr), v = some (.ref u01081) ∧ Fr n0 L ∧ Keep h0 h [] ∧ h0.size ≤ u01081 ∧ Ee2 Z h u01081 ∧ Ff5 Z h u01081 (.int 0) ∧ Ff4 Z h u01081 (.long (R145_0 x0)) := by
 refine o_body own_pn2 k.1 (ef1 _ _) ?_
 intro p e s m b _ c T0 X0 j e0
 have N0 := Fr.nil n0
 have Z0 := own_Z0 O_0
 obtain ⟨hh0, q0⟩ := o_ad hH
 obtain ⟨hh1, q1⟩ := o_ad q0
 obtain ⟨hh2, q2⟩ := own_and q1
 obtain ⟨hh3, q3⟩ := own_and q2
 obtain ⟨hh4, q4⟩ := own_and q3
 refine o_lloadN X0 j (dc2 0 rfl) rfl ?_
 refine o_lconstL X0 j (dc2 1 rfl) 0 ?_
 refine o_lcmp X0 j (dc2 2 rfl) ?_
 refine o_ifYes X0 j (dc2 3 rfl) 10 (feq (fun q => hh0 ((lw_eq x0 (0 : Int64)).mp q))).2 ?_
 refine o_lloadN X0 j (dc2 4 rfl) rfl ?_
 refine o_lconstL X0 j (dc2 5 rfl) 1 ?_
 refine o_lcmp X0 j (dc2 6 rfl) ?_
 refine o_ifYes X0 j (dc2 7 rfl) 18 (feq (fun q => hh1 ((lw_eq x0 (1 : Int64)).mp q))).2 ?_
 refine o_aloadN X0 j (dc2 10 rfl) rfl rfl ?_
 refine o_callPv X0 j (ct16 a1 O_0 k E_0 (F0nanos) (F0seconds)) rfl rfl (pL36 rfl) (dc2 11 rfl) 27 29 30 28 31 11 ⟨rfl, rfl, rfl, rfl, rfl, rfl⟩ E_0 0 e0 ?_
 rintro _ T1077 L1077 X1077 ⟨u01077, rfl, M1077, K1077, P01077, P11077, P21077, P31077, P41077, P51077⟩
 have N1077 := Fr.app N0 M1077
 have l1077_0 := (ntr Z0 P01077)
 show oG p e b T1077 m 22 #[sR a1, sJ x0, s2] [(.ref u01077)] _
 refine o_lloadN X1077 j (dc2 12 rfl) rfl ?_
 refine o_callS X1077 j (ct78 x0 ((O_0.keep K1077 all0)) k hh2) rfl rfl (pL11 rfl) (dc2 13 rfl) 32 33 34 35 ⟨rfl, rfl, rfl, rfl⟩ 1 rfl ?_
 rintro _ T1078 L1078 X1078 ⟨u01078, rfl, M1078, K1078, P01078, P11078, P21078, P31078, P41078, P51078⟩
 have N1078 := Fr.app N1077 M1078
 have l1078_0 := (ntr Z0 (ntr K1077.1 P01078))
 show oG p e b T1078 m 26 #[sR a1, sJ x0, s2] [(.ref u01078), (.ref u01077)] _
 refine o_callV X1078 j (ct133 u01077 u01078 x0 (((O_0.keep K1077 all0).keep K1078 all0)) k ((P11077.keep K1078)) ((P21077.keep K1078 nin0)) ((P51077.keep K1078 nin0)) P11078 P21078 P51078 hh3) rfl rfl (pL12 rfl) (dc2 14 rfl) 95 96 98 97 99 34 ⟨rfl, rfl, rfl, rfl, rfl, rfl⟩ (P11077.keep K1078) 0 rfl ?_
 rintro _ T1079 L1079 X1079 ⟨u01079, u11079, u21079, rfl, M1079, K1079, P01079, P11079, P21079, P31079, P41079, P51079, P61079, P71079, P81079, P91079, P101079, P111079, P121079, P131079, P141079, P151079⟩
 have N1079 := Fr.app N1078 M1079
 have l1079_0 := (ntr Z0 (ntr (ntr K1077.1 K1078.1) P01079))
 have l1079_1 := (ntr Z0 (ntr (ntr K1077.1 K1078.1) P11079))
 have l1079_2 := (ntr Z0 (ntr (ntr K1077.1 K1078.1) P21079))
 show oG p e b T1079 m 29 #[sR a1, sJ x0, s2] [(.ref u01079)] _
 have y1080 := (((O_0.keep K1077 all0).keep K1078 all0).keep K1079 all0)
 refine o_callS X1079 j (ct144 u01079 u11079 u21079 ((D131_4 x0).toInt32) ((D131_3 x0).toInt32) ((D131_1 x0).toInt32) y1080 k P61079 P71079 P81079 P101079 P111079 P131079 P141079 P151079 hh4) rfl rfl (pL37 rfl) (dc2 15 rfl) 111 112 11 113 ⟨rfl, rfl, rfl, rfl⟩ 0 rfl ?_
 rintro _ T1081 L1081 X1081 ⟨u01081, rfl, M1081, K1081, P01081, P11081, P21081, P31081⟩
 have N1081 := Fr.app N1079 M1081
 have l1081_0 := (ntr Z0 (ntr (ntr (ntr K1077.1 K1078.1) K1079.1) P01081))
 show oG p e b T1081 m 32 #[sR a1, sJ x0, s2] [(.ref u01081)] _
 exact o_retA X1081 j (dc2 16 rfl) rfl ⟨u01081, rfl, N1081, (((((Keep.refl h0 []).trans K1077 all0).trans K1078 all0).trans K1079 all0).trans K1081 all0), (ntr (ntr (ntr K1077.1 K1078.1) K1079.1) P01081), P11081, P21081, P31081⟩
def H146 (x0 : Int32) : Bool := decide (¬ x0 < (1 : Int32)) && (decide (¬ (61 : Int32) < x0) && ((H145 ((1 : Int64) <<< ((x0 - (1 : Int32)) &&& 0x3f).toInt64)) && true))
def R146_0 (x0 : Int32) : Int64 := (R145_0 ((1 : Int64) <<< ((x0 - (1 : Int32)) &&& 0x3f).toInt64))
theorem ct146 (x0 : Int32) (O_0 : Old Z n0 h0) (k : own_K Z a0 g) (hH : H146 x0 = true) :
 mM1 l ws (oR 9 19 65 143) #[(.int x0)] Z h0 fun v h L => ∃ (u01083 : Addr), v = some (.ref u01083) ∧ Fr n0 L ∧ Keep h0 h [] ∧ h0.size ≤ u01083 ∧ Ee2 Z h u01083 ∧ Ff5 Z h u01083 (.int 0) ∧ Ff4 Z h u01083 (.long (R146_0 x0)) := by
 refine o_body own_pn1 k.1 (ef2 _) ?_
 intro p e s m b _ c T0 X0 j e0
 have N0 := Fr.nil n0
 have Z0 := own_Z0 O_0
 obtain ⟨hh0, q0⟩ := o_ad hH
 obtain ⟨hh1, q1⟩ := o_ad q0
 obtain ⟨hh2, q2⟩ := own_and q1
 refine o_iloadN X0 j (dc1 0 rfl) rfl ?_
 refine o_iconstL X0 j (dc1 1 rfl) 1 ?_
 refine o_icmpNo X0 j (dc1 2 rfl) (flt hh0).1 ?_
 refine o_iloadN X0 j (dc1 3 rfl) rfl ?_
 refine o_bipushL X0 j (dc1 4 rfl) 61 ?_
 refine o_icmpYes X0 j (dc1 5 rfl) 25 (flt hh1).2.2.2 ?_
 refine o_getS X0 j (dc1 6 rfl) 5 rfl e0 ((k6 k).ext O_0.2) fun T1082 X1082 e1082 => ?_
 refine o_lconstL X1082 j (dc1 7 rfl) 1 ?_
 refine o_iloadN X1082 j (dc1 8 rfl) rfl ?_
 refine o_iconstL X1082 j (dc1 9 rfl) 1 ?_
 refine o_isub X1082 j (dc1 10 rfl) ?_
 refine o_lshl X1082 j (dc1 11 rfl) ?_
 refine o_callV X1082 j (ct145 (g 51) ((1 : Int64) <<< ((x0 - (1 : Int32)) &&& 0x3f).toInt64) O_0 k (((k25 k).ext O_0.2)) (((k27 k).ext O_0.2)) (((k26 k).ext O_0.2)) hh2) rfl rfl (pL0 rfl) (dc1 12 rfl) 7 8 10 9 12 11 ⟨rfl, rfl, rfl, rfl, rfl, rfl⟩ ((k25 k).ext O_0.2) 0 e1082 ?_
 rintro _ T1083 L1083 X1083 ⟨u01083, rfl, M1083, K1083, P01083, P11083, P21083, P31083⟩
 have N1083 := Fr.app N0 M1083
 have l1083_0 := (ntr Z0 P01083)
 show oG p e b T1083 m 36 #[sI x0] [(.ref u01083)] _
 exact o_retA X1083 j (dc1 13 rfl) rfl ⟨u01083, rfl, N1083, ((Keep.refl h0 []).trans K1083 all0), P01083, P11083, P21083, P31083⟩
end OwnC
def own_r (p : Int32) : Int32 := ((p &&& (2147483647 : Int32)) - ((p &&& (2147483647 : Int32)) / (61 : Int32)) * (61 : Int32)) + (1 : Int32)
def own_sh (r : Int32) : Int64 := (1 : Int64) <<< ((r + (1 : Int32)) &&& 0x3f).toInt64
theorem own_rng (p : Int32) : 1 ≤ (own_r p).toInt ∧ (own_r p).toInt ≤ 61 := by
  have ha := c_and p 2147483647 (by decide)
  have e1 : (61 : Int32).toInt = 61 := by decide
  have e2 : (1 : Int32).toInt = 1 := by decide
  unfold own_r
  generalize (p &&& (2147483647 : Int32)) = a at ha ⊢
  have hd := (c_idiv a 61 61 e1 (by decide)).1 ha.1
  have hm := c_imul (a / 61) 61
  have hs := c_isub a (a / 61 * 61)
  have hp := c_iadd (a - a / 61 * 61) 1
  have r0 := rng32 a
  have r1 := rng32 (a / 61 * 61)
  have r2 := rng32 (a - a / 61 * 61)
  have r3 := rng32 (a - a / 61 * 61 + 1)
  rw [e1] at hm
  rw [e2] at hp
  omega

def own_ok (r : Int32) : Bool := if r = (1 : Int32) then (H1 r && decide ((4 : Int64) = own_sh r)) else if r = (2 : Int32) then (H70 r && decide ((8 : Int64) = own_sh r)) else if r = (3 : Int32) then (H73 r && decide ((16 : Int64) = own_sh r)) else if r = (4 : Int32) then (H76 r && decide ((32 : Int64) = own_sh r)) else if r < (31 : Int32) then (H98 r && decide ((R98_0 r) = own_sh r)) else if r < (33 : Int32) then (H114 r && decide ((R114_0 r) = own_sh r)) else if r < (34 : Int32) then (H129 r && decide ((R129_0 r) = own_sh r)) else (H146 r && decide ((R146_0 r) = own_sh r))
theorem own_all : ∀ n : Fin 61, own_ok (Int32.ofInt ((n.val : Int) + 1)) = true := by decide +kernel
theorem own_okr (p : Int32) : own_ok (own_r p) = true := by
  obtain ⟨h1, h2⟩ := own_rng p
  have h := own_all ⟨((own_r p).toInt - 1).toNat, by omega⟩
  have e : ((((own_r p).toInt - 1).toNat : Nat) : Int) + 1 = (own_r p).toInt := by omega
  dsimp only at h
  rw [e, Int32.ofInt_toInt] at h
  exact h
theorem own_o1 {c : Prop} [Decidable c] {a b : Bool} {P Q : Prop} (ha : a = true → P) (hb : b = true → Q) (h : (if c then a else b) = true) : P ∨ Q := by
  by_cases q : c
  · rw [if_pos q] at h; exact Or.inl (ha h)
  · rw [if_neg q] at h; exact Or.inr (hb h)
theorem own_o2 {a : Bool} {c : Prop} [Decidable c] (h : (a && decide c) = true) : a = true ∧ c := by simpa using h
theorem own_cls {r : Int32} (h : own_ok r = true) : (H1 r = true ∧ (4 : Int64) = own_sh r) ∨ (H70 r = true ∧ (8 : Int64) = own_sh r) ∨ (H73 r = true ∧ (16 : Int64) = own_sh r) ∨ (H76 r = true ∧ (32 : Int64) = own_sh r) ∨ (H98 r = true ∧ (R98_0 r) = own_sh r) ∨ (H114 r = true ∧ (R114_0 r) = own_sh r) ∨ (H129 r = true ∧ (R129_0 r) = own_sh r) ∨ (H146 r = true ∧ (R146_0 r) = own_sh r) :=
  (own_o1 own_o2 (own_o1 own_o2 (own_o1 own_o2 (own_o1 own_o2 (own_o1 own_o2 (own_o1 own_o2 (own_o1 own_o2 own_o2))))))) h
theorem own_pn3 : plainFor (⟨"java/time/Duration", "getSeconds", "()J"⟩ : MethodName) = true := plainFor_of_name (by first | (simp [plainName, overriddenIn]; done) | decide +kernel)
theorem own_d3_0 : decode jdk_2316_method_23_code 0 = .ok (.aload_n 0, 1) := by decide +kernel
theorem own_d3_1 : decode jdk_2316_method_23_code 1 = .ok (.getfield 221, 3) := by decide +kernel
theorem own_d3_4 : decode jdk_2316_method_23_code 4 = .ok (.lreturn, 1) := by decide +kernel
theorem own_ef_rm_seconds (m : MethodId) (a1 : Addr) : entryFrame m #[(.ref a1)] 1 = mkF m 0 #[.val (.ref a1)] [] := by first | (simp [entryFrame, mkF, argsToLocals, Value.category]; done) | rfl
def Qrm_seconds (Z : State) (a1 : Addr) (x0 : Int64) (h0 : Heap) (n0 : Nat) (v : Option Value) (h : Heap) (L : List Loc) : Prop := v = some (.long x0) ∧ Fr n0 L ∧ h = h0
set_option maxRecDepth 65536 in
set_option maxHeartbeats 40000000 in
theorem rm_seconds (l : Launch) (Z : State) (a0 : Array Value) (hw : ∀ d ∈ tables_1, d.before a0 Z = true) (ws : List Jvm.Cond) (a1 : Addr) (x0 : Int64) (h0 : Heap) (n0 : Nat) (F_o : Fld Z h0 a1 "java/time/Duration" "seconds" "J" (.long x0)) :
    own_Met l (⟨"java/time/Duration", "getSeconds", "()J"⟩ : MethodName) jdk_2316_method_23_code 1 (some .long) ws ({ frames := 0, cells := 0, slots := 0, locals := 0 } : Room) #[(.ref a1)] Z h0 (Qrm_seconds Z a1 x0 h0 n0) := by
  refine own_body own_pn3 ?_
  intro p e s m below meth c T0 X0 hx hby hml hown hnm hret hlk hZ e0
  have N0 := Fr.nil n0
  refine own_st (fun t k => castTop (own_ef_rm_seconds m a1) k) ?_
  show own_Go p.tables e below (T0.setTop (mkF m 0 #[.val (.ref a1)] [])) _
  refine own_aloadN X0 hx hby own_d3_0 (pc' := 1) rfl rfl rfl ?_
  refine own_getF X0 hx hby own_d3_1 (pc' := 4) rfl hZ hown (host := "") (Or.inl (own_t hw 18 rfl)) Via.refl e0 F_o ?_
  intro T1084 X1084 e1084
  exact own_retJ X1084 hx hret (hb hby own_d3_4) hlk (by decide) (by decide) ⟨rfl, N0, e1084⟩
theorem own_pn4 : plainFor (⟨"java/time/Duration", "getNano", "()I"⟩ : MethodName) = true := plainFor_of_name (by first | (simp [plainName, overriddenIn]; done) | decide +kernel)
theorem own_d4_0 : decode jdk_2316_method_24_code 0 = .ok (.aload_n 0, 1) := by decide +kernel
theorem own_d4_1 : decode jdk_2316_method_24_code 1 = .ok (.getfield 224, 3) := by decide +kernel
theorem own_d4_4 : decode jdk_2316_method_24_code 4 = .ok (.ireturn, 1) := by decide +kernel
theorem own_ef_rm_nanos (m : MethodId) (a1 : Addr) : entryFrame m #[(.ref a1)] 1 = mkF m 0 #[.val (.ref a1)] [] := by first | (simp [entryFrame, mkF, argsToLocals, Value.category]; done) | rfl
def Qrm_nanos (Z : State) (a1 : Addr) (x0 : Int32) (h0 : Heap) (n0 : Nat) (v : Option Value) (h : Heap) (L : List Loc) : Prop := v = some (.int x0) ∧ Fr n0 L ∧ h = h0
set_option maxRecDepth 65536 in
set_option maxHeartbeats 40000000 in
theorem rm_nanos (l : Launch) (Z : State) (a0 : Array Value) (hw : ∀ d ∈ tables_1, d.before a0 Z = true) (ws : List Jvm.Cond) (a1 : Addr) (x0 : Int32) (h0 : Heap) (n0 : Nat) (F_o : Fld Z h0 a1 "java/time/Duration" "nanos" "I" (.int x0)) :
    own_Met l (⟨"java/time/Duration", "getNano", "()I"⟩ : MethodName) jdk_2316_method_24_code 1 (some .int) ws ({ frames := 0, cells := 0, slots := 0, locals := 0 } : Room) #[(.ref a1)] Z h0 (Qrm_nanos Z a1 x0 h0 n0) := by
  refine own_body own_pn4 ?_
  intro p e s m below meth c T0 X0 hx hby hml hown hnm hret hlk hZ e0
  have N0 := Fr.nil n0
  refine own_st (fun t k => castTop (own_ef_rm_nanos m a1) k) ?_
  show own_Go p.tables e below (T0.setTop (mkF m 0 #[.val (.ref a1)] [])) _
  refine own_aloadN X0 hx hby own_d4_0 (pc' := 1) rfl rfl rfl ?_
  refine own_getF X0 hx hby own_d4_1 (pc' := 4) rfl hZ hown (host := "") (Or.inl (own_t hw 25 rfl)) Via.refl e0 F_o ?_
  intro T1085 X1085 e1085
  exact own_retI X1085 hx hret (hb hby own_d4_4) hlk (by decide) (by decide) ⟨rfl, N0, e1085⟩
theorem own_pn0 : plainFor x = true := plainFor_of_name (by first | (simp [x, plainName, overriddenIn]; done) | decide +kernel)
theorem own_pd38 : parseMethodDescriptor "(I)Ljava/time/Duration;" = some ⟨[.int], some (.object "java/time/Duration")⟩ := by decide +kernel
theorem own_ef_rm0 (m : MethodId) (p1 : Int32) : entryFrame m #[(.int p1)] maxLocals = mkF m 0 #[.val (.int p1), .unset, .unset, .unset, .unset] [] := by first | (simp [entryFrame, mkF, argsToLocals, Value.category, maxLocals]; done) | rfl
def Qrm0 (Z : State) (p1 : Int32) (g : Nat → Addr) (h0 : Heap) (n0 : Nat) (v : Option Value) (h : Heap) (L : List Loc) : Prop := v = some (.int (1 : Int32)) ∧ Fr n0 L
set_option maxRecDepth 65536 in
set_option maxHeartbeats 40000000 in
theorem rm0 (l : Launch) (Z : State) (a0 : Array Value) (hw : ∀ d ∈ tables_1, d.before a0 Z = true) (ws : List Jvm.Cond) (p1 : Int32) (g : Nat → Addr) (h0 : Heap) (n0 : Nat) (O_0 : Old Z n0 h0) (hK : own_K Z a0 g) :
    own_Met l x code maxLocals ret ws room_1 #[(.int p1)] Z h0 (Qrm0 Z p1 g h0 n0) := by
  refine own_body own_pn0 ?_
  intro p e s m below meth c T0 X0 hx hby hml hown hnm hret hlk hZ e0
  have N0 := Fr.nil n0
  refine own_st (fun t k => castTop (own_ef_rm0 m p1) k) ?_
  show own_Go p.tables e below (T0.setTop (mkF m 0 #[.val (.int p1), .unset, .unset, .unset, .unset] [])) _
  have Z0 := own_Z0 O_0
  refine own_iloadN X0 hx hby at_0 (pc' := 1) rfl rfl ?_
  refine own_ldc X0 hx hby at_1 (pc' := 3) rfl hZ hown (own_t hw 0 rfl) ?_
  refine own_iand X0 hx hby at_3 (pc' := 4) rfl rfl ?_
  refine own_bipush X0 hx hby at_4 (pc' := 6) rfl (z := (61 : Int32)) (by decide) ?_
  refine own_irem X0 hx hby at_6 (pc' := 7) rfl (by decide) rfl ?_
  refine own_iconst X0 hx hby at_7 (pc' := 8) rfl (z := (1 : Int32)) (by decide) ?_
  refine own_iadd X0 hx hby at_8 (pc' := 9) rfl rfl ?_
  refine own_istoreN X0 hx hby at_9 (pc' := 10) rfl (Ls' := #[.val (.int p1), .val (.int (own_r p1)), .unset, .unset, .unset]) rfl ?_
  refine own_iloadN X0 hx hby at_10 (pc' := 11) rfl rfl ?_
  rcases own_cls (own_okr p1) with hc1 | hc70 | hc73 | hc76 | hc98 | hc114 | hc129 | hc146
  · skip
    refine own_callS X0 hx hZ (ct1 (own_r p1) O_0 hK hc1.1) hown (own_t hw 1 rfl) (own_t hw 2 rfl) (own_t hw 3 rfl) (own_t hw 4 rfl) (by decide) (W := 0) (by decide) (by decide) (by rw [hml]; rfl) (argsL := [(.int (own_r p1))]) (rest := []) rfl (lenOf own_pd38 rfl) rfl (Nat.le_of_eq rfl) (hb hby at_11) e0 (by decide) (by decide) ?_
    intro v1086 T1086 L1086 X1086 hQ1086
    obtain ⟨hv1086, N1086q, e1086⟩ := hQ1086
    subst hv1086
    have N1086 := Fr.app N0 N1086q
    show own_Go p.tables e below (T1086.setTop (mkF m 14 #[.val (.int p1), .val (.int (own_r p1)), .unset, .unset, .unset] [(.ref (g 51))])) _
    refine own_astoreN X1086 hx hby at_14 (pc' := 15) rfl rfl (Ls' := #[.val (.int p1), .val (.int (own_r p1)), .val (.ref (g 51)), .unset, .unset]) rfl ?_
    refine own_lconst X1086 hx hby at_15 (pc' := 16) rfl (z := (1 : Int64)) (by decide) ?_
    refine own_iloadN X1086 hx hby at_16 (pc' := 17) rfl rfl ?_
    refine own_iconst X1086 hx hby at_17 (pc' := 18) rfl (z := (1 : Int32)) (by decide) ?_
    refine own_iadd X1086 hx hby at_18 (pc' := 19) rfl rfl ?_
    refine own_lshl X1086 hx hby at_19 (pc' := 20) rfl rfl ?_
    refine own_lstoreN X1086 hx hby at_20 (pc' := 21) rfl (Ls' := #[.val (.int p1), .val (.int (own_r p1)), .val (.ref (g 51)), .val (.long (own_sh (own_r p1))), .second]) rfl ?_
    refine own_aloadN X1086 hx hby at_21 (pc' := 22) rfl rfl rfl ?_
    refine own_callV X1086 hx hZ (rm_seconds l Z a0 hw [] (g 51) (4 : Int64) h0 n0 (((k26 hK).ext O_0.2))) hown (own_t hw 13 rfl) (own_t hw 14 rfl) (own_t hw 16 rfl) (own_t hw 15 rfl) (own_t hw 17 rfl) (own_t hw 11 rfl) (by decide) ((k25 hK).ext O_0.2) (W := 0) (by decide) (by decide) (by rw [hml]; rfl) (argsL := []) (rest := []) rfl (lenOf own_pd34 rfl) rfl (Nat.le_of_eq rfl) (hb hby at_22) e1086 (by decide) (by decide) ?_
    intro v1087 T1087 L1087 X1087 hQ1087
    obtain ⟨hv1087, N1087q, e1087⟩ := hQ1087
    subst hv1087
    have N1087 := Fr.app N1086 N1087q
    show own_Go p.tables e below (T1087.setTop (mkF m 25 #[.val (.int p1), .val (.int (own_r p1)), .val (.ref (g 51)), .val (.long (own_sh (own_r p1))), .second] [(.long (4 : Int64))])) _
    refine own_lloadN X1087 hx hby at_25 (pc' := 26) rfl rfl ?_
    refine own_lcmp X1087 hx hby at_26 (pc' := 27) rfl ?_
    refine own_ifNo X1087 hx hby at_27 (pc' := 30) rfl (teq ((lw_eq _ _).mpr hc1.2)).2 ?_
    refine own_aloadN X1087 hx hby at_30 (pc' := 31) rfl rfl rfl ?_
    refine own_callV X1087 hx hZ (rm_nanos l Z a0 hw [] (g 51) (0 : Int32) h0 n0 (((k27 hK).ext O_0.2))) hown (own_t hw 20 rfl) (own_t hw 21 rfl) (own_t hw 23 rfl) (own_t hw 22 rfl) (own_t hw 24 rfl) (own_t hw 11 rfl) (by decide) ((k25 hK).ext O_0.2) (W := 0) (by decide) (by decide) (by rw [hml]; rfl) (argsL := []) (rest := []) rfl (lenOf own_pd31 rfl) rfl (Nat.le_of_eq rfl) (hb hby at_31) e1087 (by decide) (by decide) ?_
    intro v1088 T1088 L1088 X1088 hQ1088
    obtain ⟨hv1088, N1088q, e1088⟩ := hQ1088
    subst hv1088
    have N1088 := Fr.app N1087 N1088q
    show own_Go p.tables e below (T1088.setTop (mkF m 34 #[.val (.int p1), .val (.int (own_r p1)), .val (.ref (g 51)), .val (.long (own_sh (own_r p1))), .second] [(.int (0 : Int32))])) _
    refine own_ifNo X1088 hx hby at_34 (pc' := 37) rfl (by decide) ?_
    refine own_iconst X1088 hx hby at_37 (pc' := 38) rfl (z := (1 : Int32)) (by decide) ?_
    refine own_goto X1088 hx hby at_38 (pc' := 42) (by decide) ?_
    exact own_retZ (t := .boolean) X1088 hx hret (by simp) (hb hby at_42) hlk (by decide) (by decide) ⟨congrArg (fun z => some (Value.int z)) (own_nar1), N1088⟩
  · skip
    refine own_callS X0 hx hZ (ct70 (own_r p1) O_0 hK hc70.1) hown (own_t hw 1 rfl) (own_t hw 2 rfl) (own_t hw 3 rfl) (own_t hw 4 rfl) (by decide) (W := 0) (by decide) (by decide) (by rw [hml]; rfl) (argsL := [(.int (own_r p1))]) (rest := []) rfl (lenOf own_pd38 rfl) rfl (Nat.le_of_eq rfl) (hb hby at_11) e0 (by decide) (by decide) ?_
    intro v1089 T1089 L1089 X1089 hQ1089
    obtain ⟨u1089, hv1089, N1089q, K1089, P01089, P11089, P21089, P31089⟩ := hQ1089
    subst hv1089
    have N1089 := Fr.app N0 N1089q
    show own_Go p.tables e below (T1089.setTop (mkF m 14 #[.val (.int p1), .val (.int (own_r p1)), .unset, .unset, .unset] [(.ref u1089)])) _
    refine own_astoreN X1089 hx hby at_14 (pc' := 15) rfl rfl (Ls' := #[.val (.int p1), .val (.int (own_r p1)), .val (.ref u1089), .unset, .unset]) rfl ?_
    refine own_lconst X1089 hx hby at_15 (pc' := 16) rfl (z := (1 : Int64)) (by decide) ?_
    refine own_iloadN X1089 hx hby at_16 (pc' := 17) rfl rfl ?_
    refine own_iconst X1089 hx hby at_17 (pc' := 18) rfl (z := (1 : Int32)) (by decide) ?_
    refine own_iadd X1089 hx hby at_18 (pc' := 19) rfl rfl ?_
    refine own_lshl X1089 hx hby at_19 (pc' := 20) rfl rfl ?_
    refine own_lstoreN X1089 hx hby at_20 (pc' := 21) rfl (Ls' := #[.val (.int p1), .val (.int (own_r p1)), .val (.ref u1089), .val (.long (own_sh (own_r p1))), .second]) rfl ?_
    refine own_aloadN X1089 hx hby at_21 (pc' := 22) rfl rfl rfl ?_
    refine own_callV X1089 hx hZ (rm_seconds l Z a0 hw [] u1089 (8 : Int64) T1089.heap n0 (P31089)) hown (own_t hw 13 rfl) (own_t hw 14 rfl) (own_t hw 16 rfl) (own_t hw 15 rfl) (own_t hw 17 rfl) (own_t hw 11 rfl) (by decide) P11089 (W := 0) (by decide) (by decide) (by rw [hml]; rfl) (argsL := []) (rest := []) rfl (lenOf own_pd34 rfl) rfl (Nat.le_of_eq rfl) (hb hby at_22) rfl (by decide) (by decide) ?_
    intro v1090 T1090 L1090 X1090 hQ1090
    obtain ⟨hv1090, N1090q, e1090⟩ := hQ1090
    subst hv1090
    have N1090 := Fr.app N1089 N1090q
    show own_Go p.tables e below (T1090.setTop (mkF m 25 #[.val (.int p1), .val (.int (own_r p1)), .val (.ref u1089), .val (.long (own_sh (own_r p1))), .second] [(.long (8 : Int64))])) _
    refine own_lloadN X1090 hx hby at_25 (pc' := 26) rfl rfl ?_
    refine own_lcmp X1090 hx hby at_26 (pc' := 27) rfl ?_
    refine own_ifNo X1090 hx hby at_27 (pc' := 30) rfl (teq ((lw_eq _ _).mpr hc70.2)).2 ?_
    refine own_aloadN X1090 hx hby at_30 (pc' := 31) rfl rfl rfl ?_
    refine own_callV X1090 hx hZ (rm_nanos l Z a0 hw [] u1089 (0 : Int32) T1089.heap n0 (P21089)) hown (own_t hw 20 rfl) (own_t hw 21 rfl) (own_t hw 23 rfl) (own_t hw 22 rfl) (own_t hw 24 rfl) (own_t hw 11 rfl) (by decide) P11089 (W := 0) (by decide) (by decide) (by rw [hml]; rfl) (argsL := []) (rest := []) rfl (lenOf own_pd31 rfl) rfl (Nat.le_of_eq rfl) (hb hby at_31) e1090 (by decide) (by decide) ?_
    intro v1091 T1091 L1091 X1091 hQ1091
    obtain ⟨hv1091, N1091q, e1091⟩ := hQ1091
    subst hv1091
    have N1091 := Fr.app N1090 N1091q
    show own_Go p.tables e below (T1091.setTop (mkF m 34 #[.val (.int p1), .val (.int (own_r p1)), .val (.ref u1089), .val (.long (own_sh (own_r p1))), .second] [(.int (0 : Int32))])) _
    refine own_ifNo X1091 hx hby at_34 (pc' := 37) rfl (by decide) ?_
    refine own_iconst X1091 hx hby at_37 (pc' := 38) rfl (z := (1 : Int32)) (by decide) ?_
    refine own_goto X1091 hx hby at_38 (pc' := 42) (by decide) ?_
    exact own_retZ (t := .boolean) X1091 hx hret (by simp) (hb hby at_42) hlk (by decide) (by decide) ⟨congrArg (fun z => some (Value.int z)) (own_nar1), N1091⟩
  · skip
    refine own_callS X0 hx hZ (ct73 (own_r p1) O_0 hK hc73.1) hown (own_t hw 1 rfl) (own_t hw 2 rfl) (own_t hw 3 rfl) (own_t hw 4 rfl) (by decide) (W := 0) (by decide) (by decide) (by rw [hml]; rfl) (argsL := [(.int (own_r p1))]) (rest := []) rfl (lenOf own_pd38 rfl) rfl (Nat.le_of_eq rfl) (hb hby at_11) e0 (by decide) (by decide) ?_
    intro v1092 T1092 L1092 X1092 hQ1092
    obtain ⟨u1092, hv1092, N1092q, K1092, P01092, P11092, P21092, P31092⟩ := hQ1092
    subst hv1092
    have N1092 := Fr.app N0 N1092q
    show own_Go p.tables e below (T1092.setTop (mkF m 14 #[.val (.int p1), .val (.int (own_r p1)), .unset, .unset, .unset] [(.ref u1092)])) _
    refine own_astoreN X1092 hx hby at_14 (pc' := 15) rfl rfl (Ls' := #[.val (.int p1), .val (.int (own_r p1)), .val (.ref u1092), .unset, .unset]) rfl ?_
    refine own_lconst X1092 hx hby at_15 (pc' := 16) rfl (z := (1 : Int64)) (by decide) ?_
    refine own_iloadN X1092 hx hby at_16 (pc' := 17) rfl rfl ?_
    refine own_iconst X1092 hx hby at_17 (pc' := 18) rfl (z := (1 : Int32)) (by decide) ?_
    refine own_iadd X1092 hx hby at_18 (pc' := 19) rfl rfl ?_
    refine own_lshl X1092 hx hby at_19 (pc' := 20) rfl rfl ?_
    refine own_lstoreN X1092 hx hby at_20 (pc' := 21) rfl (Ls' := #[.val (.int p1), .val (.int (own_r p1)), .val (.ref u1092), .val (.long (own_sh (own_r p1))), .second]) rfl ?_
    refine own_aloadN X1092 hx hby at_21 (pc' := 22) rfl rfl rfl ?_
    refine own_callV X1092 hx hZ (rm_seconds l Z a0 hw [] u1092 (16 : Int64) T1092.heap n0 (P31092)) hown (own_t hw 13 rfl) (own_t hw 14 rfl) (own_t hw 16 rfl) (own_t hw 15 rfl) (own_t hw 17 rfl) (own_t hw 11 rfl) (by decide) P11092 (W := 0) (by decide) (by decide) (by rw [hml]; rfl) (argsL := []) (rest := []) rfl (lenOf own_pd34 rfl) rfl (Nat.le_of_eq rfl) (hb hby at_22) rfl (by decide) (by decide) ?_
    intro v1093 T1093 L1093 X1093 hQ1093
    obtain ⟨hv1093, N1093q, e1093⟩ := hQ1093
    subst hv1093
    have N1093 := Fr.app N1092 N1093q
    show own_Go p.tables e below (T1093.setTop (mkF m 25 #[.val (.int p1), .val (.int (own_r p1)), .val (.ref u1092), .val (.long (own_sh (own_r p1))), .second] [(.long (16 : Int64))])) _
    refine own_lloadN X1093 hx hby at_25 (pc' := 26) rfl rfl ?_
    refine own_lcmp X1093 hx hby at_26 (pc' := 27) rfl ?_
    refine own_ifNo X1093 hx hby at_27 (pc' := 30) rfl (teq ((lw_eq _ _).mpr hc73.2)).2 ?_
    refine own_aloadN X1093 hx hby at_30 (pc' := 31) rfl rfl rfl ?_
    refine own_callV X1093 hx hZ (rm_nanos l Z a0 hw [] u1092 (0 : Int32) T1092.heap n0 (P21092)) hown (own_t hw 20 rfl) (own_t hw 21 rfl) (own_t hw 23 rfl) (own_t hw 22 rfl) (own_t hw 24 rfl) (own_t hw 11 rfl) (by decide) P11092 (W := 0) (by decide) (by decide) (by rw [hml]; rfl) (argsL := []) (rest := []) rfl (lenOf own_pd31 rfl) rfl (Nat.le_of_eq rfl) (hb hby at_31) e1093 (by decide) (by decide) ?_
    intro v1094 T1094 L1094 X1094 hQ1094
    obtain ⟨hv1094, N1094q, e1094⟩ := hQ1094
    subst hv1094
    have N1094 := Fr.app N1093 N1094q
    show own_Go p.tables e below (T1094.setTop (mkF m 34 #[.val (.int p1), .val (.int (own_r p1)), .val (.ref u1092), .val (.long (own_sh (own_r p1))), .second] [(.int (0 : Int32))])) _
    refine own_ifNo X1094 hx hby at_34 (pc' := 37) rfl (by decide) ?_
    refine own_iconst X1094 hx hby at_37 (pc' := 38) rfl (z := (1 : Int32)) (by decide) ?_
    refine own_goto X1094 hx hby at_38 (pc' := 42) (by decide) ?_
    exact own_retZ (t := .boolean) X1094 hx hret (by simp) (hb hby at_42) hlk (by decide) (by decide) ⟨congrArg (fun z => some (Value.int z)) (own_nar1), N1094⟩
  · skip
    refine own_callS X0 hx hZ (ct76 (own_r p1) O_0 hK hc76.1) hown (own_t hw 1 rfl) (own_t hw 2 rfl) (own_t hw 3 rfl) (own_t hw 4 rfl) (by decide) (W := 0) (by decide) (by decide) (by rw [hml]; rfl) (argsL := [(.int (own_r p1))]) (rest := []) rfl (lenOf own_pd38 rfl) rfl (Nat.le_of_eq rfl) (hb hby at_11) e0 (by decide) (by decide) ?_
    intro v1095 T1095 L1095 X1095 hQ1095
    obtain ⟨u1095, hv1095, N1095q, K1095, P01095, P11095, P21095, P31095⟩ := hQ1095
    subst hv1095
    have N1095 := Fr.app N0 N1095q
    show own_Go p.tables e below (T1095.setTop (mkF m 14 #[.val (.int p1), .val (.int (own_r p1)), .unset, .unset, .unset] [(.ref u1095)])) _
    refine own_astoreN X1095 hx hby at_14 (pc' := 15) rfl rfl (Ls' := #[.val (.int p1), .val (.int (own_r p1)), .val (.ref u1095), .unset, .unset]) rfl ?_
    refine own_lconst X1095 hx hby at_15 (pc' := 16) rfl (z := (1 : Int64)) (by decide) ?_
    refine own_iloadN X1095 hx hby at_16 (pc' := 17) rfl rfl ?_
    refine own_iconst X1095 hx hby at_17 (pc' := 18) rfl (z := (1 : Int32)) (by decide) ?_
    refine own_iadd X1095 hx hby at_18 (pc' := 19) rfl rfl ?_
    refine own_lshl X1095 hx hby at_19 (pc' := 20) rfl rfl ?_
    refine own_lstoreN X1095 hx hby at_20 (pc' := 21) rfl (Ls' := #[.val (.int p1), .val (.int (own_r p1)), .val (.ref u1095), .val (.long (own_sh (own_r p1))), .second]) rfl ?_
    refine own_aloadN X1095 hx hby at_21 (pc' := 22) rfl rfl rfl ?_
    refine own_callV X1095 hx hZ (rm_seconds l Z a0 hw [] u1095 (32 : Int64) T1095.heap n0 (P31095)) hown (own_t hw 13 rfl) (own_t hw 14 rfl) (own_t hw 16 rfl) (own_t hw 15 rfl) (own_t hw 17 rfl) (own_t hw 11 rfl) (by decide) P11095 (W := 0) (by decide) (by decide) (by rw [hml]; rfl) (argsL := []) (rest := []) rfl (lenOf own_pd34 rfl) rfl (Nat.le_of_eq rfl) (hb hby at_22) rfl (by decide) (by decide) ?_
    intro v1096 T1096 L1096 X1096 hQ1096
    obtain ⟨hv1096, N1096q, e1096⟩ := hQ1096
    subst hv1096
    have N1096 := Fr.app N1095 N1096q
    show own_Go p.tables e below (T1096.setTop (mkF m 25 #[.val (.int p1), .val (.int (own_r p1)), .val (.ref u1095), .val (.long (own_sh (own_r p1))), .second] [(.long (32 : Int64))])) _
    refine own_lloadN X1096 hx hby at_25 (pc' := 26) rfl rfl ?_
    refine own_lcmp X1096 hx hby at_26 (pc' := 27) rfl ?_
    refine own_ifNo X1096 hx hby at_27 (pc' := 30) rfl (teq ((lw_eq _ _).mpr hc76.2)).2 ?_
    refine own_aloadN X1096 hx hby at_30 (pc' := 31) rfl rfl rfl ?_
    refine own_callV X1096 hx hZ (rm_nanos l Z a0 hw [] u1095 (0 : Int32) T1095.heap n0 (P21095)) hown (own_t hw 20 rfl) (own_t hw 21 rfl) (own_t hw 23 rfl) (own_t hw 22 rfl) (own_t hw 24 rfl) (own_t hw 11 rfl) (by decide) P11095 (W := 0) (by decide) (by decide) (by rw [hml]; rfl) (argsL := []) (rest := []) rfl (lenOf own_pd31 rfl) rfl (Nat.le_of_eq rfl) (hb hby at_31) e1096 (by decide) (by decide) ?_
    intro v1097 T1097 L1097 X1097 hQ1097
    obtain ⟨hv1097, N1097q, e1097⟩ := hQ1097
    subst hv1097
    have N1097 := Fr.app N1096 N1097q
    show own_Go p.tables e below (T1097.setTop (mkF m 34 #[.val (.int p1), .val (.int (own_r p1)), .val (.ref u1095), .val (.long (own_sh (own_r p1))), .second] [(.int (0 : Int32))])) _
    refine own_ifNo X1097 hx hby at_34 (pc' := 37) rfl (by decide) ?_
    refine own_iconst X1097 hx hby at_37 (pc' := 38) rfl (z := (1 : Int32)) (by decide) ?_
    refine own_goto X1097 hx hby at_38 (pc' := 42) (by decide) ?_
    exact own_retZ (t := .boolean) X1097 hx hret (by simp) (hb hby at_42) hlk (by decide) (by decide) ⟨congrArg (fun z => some (Value.int z)) (own_nar1), N1097⟩
  · skip
    refine own_callS X0 hx hZ (ct98 (own_r p1) O_0 hK hc98.1) hown (own_t hw 1 rfl) (own_t hw 2 rfl) (own_t hw 3 rfl) (own_t hw 4 rfl) (by decide) (W := 0) (by decide) (by decide) (by rw [hml]; rfl) (argsL := [(.int (own_r p1))]) (rest := []) rfl (lenOf own_pd38 rfl) rfl (Nat.le_of_eq rfl) (hb hby at_11) e0 (by decide) (by decide) ?_
    intro v1098 T1098 L1098 X1098 hQ1098
    obtain ⟨u1098, hv1098, N1098q, K1098, P01098, P11098, P21098, P31098⟩ := hQ1098
    subst hv1098
    have N1098 := Fr.app N0 N1098q
    show own_Go p.tables e below (T1098.setTop (mkF m 14 #[.val (.int p1), .val (.int (own_r p1)), .unset, .unset, .unset] [(.ref u1098)])) _
    refine own_astoreN X1098 hx hby at_14 (pc' := 15) rfl rfl (Ls' := #[.val (.int p1), .val (.int (own_r p1)), .val (.ref u1098), .unset, .unset]) rfl ?_
    refine own_lconst X1098 hx hby at_15 (pc' := 16) rfl (z := (1 : Int64)) (by decide) ?_
    refine own_iloadN X1098 hx hby at_16 (pc' := 17) rfl rfl ?_
    refine own_iconst X1098 hx hby at_17 (pc' := 18) rfl (z := (1 : Int32)) (by decide) ?_
    refine own_iadd X1098 hx hby at_18 (pc' := 19) rfl rfl ?_
    refine own_lshl X1098 hx hby at_19 (pc' := 20) rfl rfl ?_
    refine own_lstoreN X1098 hx hby at_20 (pc' := 21) rfl (Ls' := #[.val (.int p1), .val (.int (own_r p1)), .val (.ref u1098), .val (.long (own_sh (own_r p1))), .second]) rfl ?_
    refine own_aloadN X1098 hx hby at_21 (pc' := 22) rfl rfl rfl ?_
    refine own_callV X1098 hx hZ (rm_seconds l Z a0 hw [] u1098 (R98_0 (own_r p1)) T1098.heap n0 (P31098)) hown (own_t hw 13 rfl) (own_t hw 14 rfl) (own_t hw 16 rfl) (own_t hw 15 rfl) (own_t hw 17 rfl) (own_t hw 11 rfl) (by decide) P11098 (W := 0) (by decide) (by decide) (by rw [hml]; rfl) (argsL := []) (rest := []) rfl (lenOf own_pd34 rfl) rfl (Nat.le_of_eq rfl) (hb hby at_22) rfl (by decide) (by decide) ?_
    intro v1099 T1099 L1099 X1099 hQ1099
    obtain ⟨hv1099, N1099q, e1099⟩ := hQ1099
    subst hv1099
    have N1099 := Fr.app N1098 N1099q
    show own_Go p.tables e below (T1099.setTop (mkF m 25 #[.val (.int p1), .val (.int (own_r p1)), .val (.ref u1098), .val (.long (own_sh (own_r p1))), .second] [(.long (R98_0 (own_r p1)))])) _
    refine own_lloadN X1099 hx hby at_25 (pc' := 26) rfl rfl ?_
    refine own_lcmp X1099 hx hby at_26 (pc' := 27) rfl ?_
    refine own_ifNo X1099 hx hby at_27 (pc' := 30) rfl (teq ((lw_eq _ _).mpr hc98.2)).2 ?_
    refine own_aloadN X1099 hx hby at_30 (pc' := 31) rfl rfl rfl ?_
    refine own_callV X1099 hx hZ (rm_nanos l Z a0 hw [] u1098 (0 : Int32) T1098.heap n0 (P21098)) hown (own_t hw 20 rfl) (own_t hw 21 rfl) (own_t hw 23 rfl) (own_t hw 22 rfl) (own_t hw 24 rfl) (own_t hw 11 rfl) (by decide) P11098 (W := 0) (by decide) (by decide) (by rw [hml]; rfl) (argsL := []) (rest := []) rfl (lenOf own_pd31 rfl) rfl (Nat.le_of_eq rfl) (hb hby at_31) e1099 (by decide) (by decide) ?_
    intro v1100 T1100 L1100 X1100 hQ1100
    obtain ⟨hv1100, N1100q, e1100⟩ := hQ1100
    subst hv1100
    have N1100 := Fr.app N1099 N1100q
    show own_Go p.tables e below (T1100.setTop (mkF m 34 #[.val (.int p1), .val (.int (own_r p1)), .val (.ref u1098), .val (.long (own_sh (own_r p1))), .second] [(.int (0 : Int32))])) _
    refine own_ifNo X1100 hx hby at_34 (pc' := 37) rfl (by decide) ?_
    refine own_iconst X1100 hx hby at_37 (pc' := 38) rfl (z := (1 : Int32)) (by decide) ?_
    refine own_goto X1100 hx hby at_38 (pc' := 42) (by decide) ?_
    exact own_retZ (t := .boolean) X1100 hx hret (by simp) (hb hby at_42) hlk (by decide) (by decide) ⟨congrArg (fun z => some (Value.int z)) (own_nar1), N1100⟩
  · skip
    refine own_callS X0 hx hZ (ct114 (own_r p1) O_0 hK hc114.1) hown (own_t hw 1 rfl) (own_t hw 2 rfl) (own_t hw 3 rfl) (own_t hw 4 rfl) (by decide) (W := 0) (by decide) (by decide) (by rw [hml]; rfl) (argsL := [(.int (own_r p1))]) (rest := []) rfl (lenOf own_pd38 rfl) rfl (Nat.le_of_eq rfl) (hb hby at_11) e0 (by decide) (by decide) ?_
    intro v1101 T1101 L1101 X1101 hQ1101
    obtain ⟨u1101, hv1101, N1101q, K1101, P01101, P11101, P21101, P31101⟩ := hQ1101
    subst hv1101
    have N1101 := Fr.app N0 N1101q
    show own_Go p.tables e below (T1101.setTop (mkF m 14 #[.val (.int p1), .val (.int (own_r p1)), .unset, .unset, .unset] [(.ref u1101)])) _
    refine own_astoreN X1101 hx hby at_14 (pc' := 15) rfl rfl (Ls' := #[.val (.int p1), .val (.int (own_r p1)), .val (.ref u1101), .unset, .unset]) rfl ?_
    refine own_lconst X1101 hx hby at_15 (pc' := 16) rfl (z := (1 : Int64)) (by decide) ?_
    refine own_iloadN X1101 hx hby at_16 (pc' := 17) rfl rfl ?_
    refine own_iconst X1101 hx hby at_17 (pc' := 18) rfl (z := (1 : Int32)) (by decide) ?_
    refine own_iadd X1101 hx hby at_18 (pc' := 19) rfl rfl ?_
    refine own_lshl X1101 hx hby at_19 (pc' := 20) rfl rfl ?_
    refine own_lstoreN X1101 hx hby at_20 (pc' := 21) rfl (Ls' := #[.val (.int p1), .val (.int (own_r p1)), .val (.ref u1101), .val (.long (own_sh (own_r p1))), .second]) rfl ?_
    refine own_aloadN X1101 hx hby at_21 (pc' := 22) rfl rfl rfl ?_
    refine own_callV X1101 hx hZ (rm_seconds l Z a0 hw [] u1101 (R114_0 (own_r p1)) T1101.heap n0 (P31101)) hown (own_t hw 13 rfl) (own_t hw 14 rfl) (own_t hw 16 rfl) (own_t hw 15 rfl) (own_t hw 17 rfl) (own_t hw 11 rfl) (by decide) P11101 (W := 0) (by decide) (by decide) (by rw [hml]; rfl) (argsL := []) (rest := []) rfl (lenOf own_pd34 rfl) rfl (Nat.le_of_eq rfl) (hb hby at_22) rfl (by decide) (by decide) ?_
    intro v1102 T1102 L1102 X1102 hQ1102
    obtain ⟨hv1102, N1102q, e1102⟩ := hQ1102
    subst hv1102
    have N1102 := Fr.app N1101 N1102q
    show own_Go p.tables e below (T1102.setTop (mkF m 25 #[.val (.int p1), .val (.int (own_r p1)), .val (.ref u1101), .val (.long (own_sh (own_r p1))), .second] [(.long (R114_0 (own_r p1)))])) _
    refine own_lloadN X1102 hx hby at_25 (pc' := 26) rfl rfl ?_
    refine own_lcmp X1102 hx hby at_26 (pc' := 27) rfl ?_
    refine own_ifNo X1102 hx hby at_27 (pc' := 30) rfl (teq ((lw_eq _ _).mpr hc114.2)).2 ?_
    refine own_aloadN X1102 hx hby at_30 (pc' := 31) rfl rfl rfl ?_
    refine own_callV X1102 hx hZ (rm_nanos l Z a0 hw [] u1101 (0 : Int32) T1101.heap n0 (P21101)) hown (own_t hw 20 rfl) (own_t hw 21 rfl) (own_t hw 23 rfl) (own_t hw 22 rfl) (own_t hw 24 rfl) (own_t hw 11 rfl) (by decide) P11101 (W := 0) (by decide) (by decide) (by rw [hml]; rfl) (argsL := []) (rest := []) rfl (lenOf own_pd31 rfl) rfl (Nat.le_of_eq rfl) (hb hby at_31) e1102 (by decide) (by decide) ?_
    intro v1103 T1103 L1103 X1103 hQ1103
    obtain ⟨hv1103, N1103q, e1103⟩ := hQ1103
    subst hv1103
    have N1103 := Fr.app N1102 N1103q
    show own_Go p.tables e below (T1103.setTop (mkF m 34 #[.val (.int p1), .val (.int (own_r p1)), .val (.ref u1101), .val (.long (own_sh (own_r p1))), .second] [(.int (0 : Int32))])) _
    refine own_ifNo X1103 hx hby at_34 (pc' := 37) rfl (by decide) ?_
    refine own_iconst X1103 hx hby at_37 (pc' := 38) rfl (z := (1 : Int32)) (by decide) ?_
    refine own_goto X1103 hx hby at_38 (pc' := 42) (by decide) ?_
    exact own_retZ (t := .boolean) X1103 hx hret (by simp) (hb hby at_42) hlk (by decide) (by decide) ⟨congrArg (fun z => some (Value.int z)) (own_nar1), N1103⟩
  · skip
    refine own_callS X0 hx hZ (ct129 (own_r p1) O_0 hK hc129.1) hown (own_t hw 1 rfl) (own_t hw 2 rfl) (own_t hw 3 rfl) (own_t hw 4 rfl) (by decide) (W := 0) (by decide) (by decide) (by rw [hml]; rfl) (argsL := [(.int (own_r p1))]) (rest := []) rfl (lenOf own_pd38 rfl) rfl (Nat.le_of_eq rfl) (hb hby at_11) e0 (by decide) (by decide) ?_
    intro v1104 T1104 L1104 X1104 hQ1104
    obtain ⟨u1104, hv1104, N1104q, K1104, P01104, P11104, P21104, P31104⟩ := hQ1104
    subst hv1104
    have N1104 := Fr.app N0 N1104q
    show own_Go p.tables e below (T1104.setTop (mkF m 14 #[.val (.int p1), .val (.int (own_r p1)), .unset, .unset, .unset] [(.ref u1104)])) _
    refine own_astoreN X1104 hx hby at_14 (pc' := 15) rfl rfl (Ls' := #[.val (.int p1), .val (.int (own_r p1)), .val (.ref u1104), .unset, .unset]) rfl ?_
    refine own_lconst X1104 hx hby at_15 (pc' := 16) rfl (z := (1 : Int64)) (by decide) ?_
    refine own_iloadN X1104 hx hby at_16 (pc' := 17) rfl rfl ?_
    refine own_iconst X1104 hx hby at_17 (pc' := 18) rfl (z := (1 : Int32)) (by decide) ?_
    refine own_iadd X1104 hx hby at_18 (pc' := 19) rfl rfl ?_
    refine own_lshl X1104 hx hby at_19 (pc' := 20) rfl rfl ?_
    refine own_lstoreN X1104 hx hby at_20 (pc' := 21) rfl (Ls' := #[.val (.int p1), .val (.int (own_r p1)), .val (.ref u1104), .val (.long (own_sh (own_r p1))), .second]) rfl ?_
    refine own_aloadN X1104 hx hby at_21 (pc' := 22) rfl rfl rfl ?_
    refine own_callV X1104 hx hZ (rm_seconds l Z a0 hw [] u1104 (R129_0 (own_r p1)) T1104.heap n0 (P31104)) hown (own_t hw 13 rfl) (own_t hw 14 rfl) (own_t hw 16 rfl) (own_t hw 15 rfl) (own_t hw 17 rfl) (own_t hw 11 rfl) (by decide) P11104 (W := 0) (by decide) (by decide) (by rw [hml]; rfl) (argsL := []) (rest := []) rfl (lenOf own_pd34 rfl) rfl (Nat.le_of_eq rfl) (hb hby at_22) rfl (by decide) (by decide) ?_
    intro v1105 T1105 L1105 X1105 hQ1105
    obtain ⟨hv1105, N1105q, e1105⟩ := hQ1105
    subst hv1105
    have N1105 := Fr.app N1104 N1105q
    show own_Go p.tables e below (T1105.setTop (mkF m 25 #[.val (.int p1), .val (.int (own_r p1)), .val (.ref u1104), .val (.long (own_sh (own_r p1))), .second] [(.long (R129_0 (own_r p1)))])) _
    refine own_lloadN X1105 hx hby at_25 (pc' := 26) rfl rfl ?_
    refine own_lcmp X1105 hx hby at_26 (pc' := 27) rfl ?_
    refine own_ifNo X1105 hx hby at_27 (pc' := 30) rfl (teq ((lw_eq _ _).mpr hc129.2)).2 ?_
    refine own_aloadN X1105 hx hby at_30 (pc' := 31) rfl rfl rfl ?_
    refine own_callV X1105 hx hZ (rm_nanos l Z a0 hw [] u1104 (0 : Int32) T1104.heap n0 (P21104)) hown (own_t hw 20 rfl) (own_t hw 21 rfl) (own_t hw 23 rfl) (own_t hw 22 rfl) (own_t hw 24 rfl) (own_t hw 11 rfl) (by decide) P11104 (W := 0) (by decide) (by decide) (by rw [hml]; rfl) (argsL := []) (rest := []) rfl (lenOf own_pd31 rfl) rfl (Nat.le_of_eq rfl) (hb hby at_31) e1105 (by decide) (by decide) ?_
    intro v1106 T1106 L1106 X1106 hQ1106
    obtain ⟨hv1106, N1106q, e1106⟩ := hQ1106
    subst hv1106
    have N1106 := Fr.app N1105 N1106q
    show own_Go p.tables e below (T1106.setTop (mkF m 34 #[.val (.int p1), .val (.int (own_r p1)), .val (.ref u1104), .val (.long (own_sh (own_r p1))), .second] [(.int (0 : Int32))])) _
    refine own_ifNo X1106 hx hby at_34 (pc' := 37) rfl (by decide) ?_
    refine own_iconst X1106 hx hby at_37 (pc' := 38) rfl (z := (1 : Int32)) (by decide) ?_
    refine own_goto X1106 hx hby at_38 (pc' := 42) (by decide) ?_
    exact own_retZ (t := .boolean) X1106 hx hret (by simp) (hb hby at_42) hlk (by decide) (by decide) ⟨congrArg (fun z => some (Value.int z)) (own_nar1), N1106⟩
  · skip
    refine own_callS X0 hx hZ (ct146 (own_r p1) O_0 hK hc146.1) hown (own_t hw 1 rfl) (own_t hw 2 rfl) (own_t hw 3 rfl) (own_t hw 4 rfl) (by decide) (W := 0) (by decide) (by decide) (by rw [hml]; rfl) (argsL := [(.int (own_r p1))]) (rest := []) rfl (lenOf own_pd38 rfl) rfl (Nat.le_of_eq rfl) (hb hby at_11) e0 (by decide) (by decide) ?_
    intro v1107 T1107 L1107 X1107 hQ1107
    obtain ⟨u1107, hv1107, N1107q, K1107, P01107, P11107, P21107, P31107⟩ := hQ1107
    subst hv1107
    have N1107 := Fr.app N0 N1107q
    show own_Go p.tables e below (T1107.setTop (mkF m 14 #[.val (.int p1), .val (.int (own_r p1)), .unset, .unset, .unset] [(.ref u1107)])) _
    refine own_astoreN X1107 hx hby at_14 (pc' := 15) rfl rfl (Ls' := #[.val (.int p1), .val (.int (own_r p1)), .val (.ref u1107), .unset, .unset]) rfl ?_
    refine own_lconst X1107 hx hby at_15 (pc' := 16) rfl (z := (1 : Int64)) (by decide) ?_
    refine own_iloadN X1107 hx hby at_16 (pc' := 17) rfl rfl ?_
    refine own_iconst X1107 hx hby at_17 (pc' := 18) rfl (z := (1 : Int32)) (by decide) ?_
    refine own_iadd X1107 hx hby at_18 (pc' := 19) rfl rfl ?_
    refine own_lshl X1107 hx hby at_19 (pc' := 20) rfl rfl ?_
    refine own_lstoreN X1107 hx hby at_20 (pc' := 21) rfl (Ls' := #[.val (.int p1), .val (.int (own_r p1)), .val (.ref u1107), .val (.long (own_sh (own_r p1))), .second]) rfl ?_
    refine own_aloadN X1107 hx hby at_21 (pc' := 22) rfl rfl rfl ?_
    refine own_callV X1107 hx hZ (rm_seconds l Z a0 hw [] u1107 (R146_0 (own_r p1)) T1107.heap n0 (P31107)) hown (own_t hw 13 rfl) (own_t hw 14 rfl) (own_t hw 16 rfl) (own_t hw 15 rfl) (own_t hw 17 rfl) (own_t hw 11 rfl) (by decide) P11107 (W := 0) (by decide) (by decide) (by rw [hml]; rfl) (argsL := []) (rest := []) rfl (lenOf own_pd34 rfl) rfl (Nat.le_of_eq rfl) (hb hby at_22) rfl (by decide) (by decide) ?_
    intro v1108 T1108 L1108 X1108 hQ1108
    obtain ⟨hv1108, N1108q, e1108⟩ := hQ1108
    subst hv1108
    have N1108 := Fr.app N1107 N1108q
    show own_Go p.tables e below (T1108.setTop (mkF m 25 #[.val (.int p1), .val (.int (own_r p1)), .val (.ref u1107), .val (.long (own_sh (own_r p1))), .second] [(.long (R146_0 (own_r p1)))])) _
    refine own_lloadN X1108 hx hby at_25 (pc' := 26) rfl rfl ?_
    refine own_lcmp X1108 hx hby at_26 (pc' := 27) rfl ?_
    refine own_ifNo X1108 hx hby at_27 (pc' := 30) rfl (teq ((lw_eq _ _).mpr hc146.2)).2 ?_
    refine own_aloadN X1108 hx hby at_30 (pc' := 31) rfl rfl rfl ?_
    refine own_callV X1108 hx hZ (rm_nanos l Z a0 hw [] u1107 (0 : Int32) T1107.heap n0 (P21107)) hown (own_t hw 20 rfl) (own_t hw 21 rfl) (own_t hw 23 rfl) (own_t hw 22 rfl) (own_t hw 24 rfl) (own_t hw 11 rfl) (by decide) P11107 (W := 0) (by decide) (by decide) (by rw [hml]; rfl) (argsL := []) (rest := []) rfl (lenOf own_pd31 rfl) rfl (Nat.le_of_eq rfl) (hb hby at_31) e1108 (by decide) (by decide) ?_
    intro v1109 T1109 L1109 X1109 hQ1109
    obtain ⟨hv1109, N1109q, e1109⟩ := hQ1109
    subst hv1109
    have N1109 := Fr.app N1108 N1109q
    show own_Go p.tables e below (T1109.setTop (mkF m 34 #[.val (.int p1), .val (.int (own_r p1)), .val (.ref u1107), .val (.long (own_sh (own_r p1))), .second] [(.int (0 : Int32))])) _
    refine own_ifNo X1109 hx hby at_34 (pc' := 37) rfl (by decide) ?_
    refine own_iconst X1109 hx hby at_37 (pc' := 38) rfl (z := (1 : Int32)) (by decide) ?_
    refine own_goto X1109 hx hby at_38 (pc' := 42) (by decide) ?_
    exact own_retZ (t := .boolean) X1109 hx hret (by simp) (hb hby at_42) hlk (by decide) (by decide) ⟨congrArg (fun z => some (Value.int z)) (own_nar1), N1109⟩
theorem own_eqJ {args : Array Value} {s first : State} {o : Option Outcome} {idx : List Nat} {a : Term} {k : Int64} (q : (Jvm.Cond.eq a (.long k)).value args first o s idx = some true) : a.eval args first o idx s = some (.long k) := by
  simp only [Cond.value, Term.eval] at q
  cases ht : a.eval args first o idx s with
  | none => simp [ht] at q
  | some x => cases x <;> simp [ht] at q ⊢ <;> exact q
theorem own_lst {cl : Cell} {vs : List Value} (hs : cl.slots.size = vs.length) (h : ∀ i, i < vs.length → cl.slots[i]? = vs[i]?) : cl.slots.toList = vs := by
  apply List.ext_getElem?
  intro i
  rw [Array.getElem?_toList]
  by_cases q : i < vs.length
  · exact h i q
  · rw [Array.getElem?_eq_none (by omega), List.getElem?_eq_none (by omega)]
theorem own_q {cl : Cell} {j : Int32} {k : Nat} {v : Value} (e : j.toNatClampNeg = k) (h : cl.slots[j.toNatClampNeg]? = some v) : cl.slots[k]? = some v := e ▸ h
theorem own_szT {args : Array Value} {s : State} {t : Term} {a : Addr} {cl : Cell} {ty : FieldType} {N : Int32} {k : Nat} (ev : t.eval args s none [] s = some (.ref a)) (A : Arr s s.heap a cl ty) (q : (Term.length t).eval args s none [] s = some (.int N)) (e : N.toInt = (k : Int)) : cl.slots.size = k := by
  have ha : s.arrayAt? a = some cl := A.fin (Vm.Alike.refl _)
  simp only [Term.eval, ev, ha, Option.bind_eq_bind, Option.bind_some] at q
  split at q
  · rename_i hlt
    have u := Value.int.inj (Option.some.inj q)
    have z := len_toInt hlt
    rw [u] at z
    omega
  · cases q
set_option maxRecDepth 65536 in
set_option maxHeartbeats 40000000 in
theorem comes_1 {Post : Tables → Env → Array Value → State → Outcome → State → Prop} (hpost : ∀ tb e args s v u, (limb_1_1.after args s (.returned v) u = true ∧ limb_1_2.after args s (.returned v) u = true ∧ True) → FrameEnd s (.returned v) u (Jvm.fieldLocs frame_1_writes args s ++ Jvm.arrayLocs frame_1_arrays args s ++ Jvm.staticLocs frame_1_statics s) 48 256 → Post tb e args s (.returned v) u) :
    ArmFor flags0 classFile x code maxLocals ret World_1 tables_1 room_1 Calls_1 rest_1 Pre_1 Post := by
  intro l hfl _ _ p e ha hc hk s m args below hf hA hF happ hP
  obtain ⟨hcalls, hrest, hpre⟩ := hP
  obtain ⟨-, -, -, hnamed, -, -, -, hat⟩ := (Spec.applies_iff hf).mp happ
  obtain ⟨hg, hn⟩ := and_e (Cond.before_iff.mp (show (Jvm.Cond.and given_1 narrow_1).before args s = true from hpre))
  obtain ⟨g1110, g1111⟩ := and_e hg
  obtain ⟨w0, rfl⟩ : ∃ w0 : Value, args = #[w0] := by
    have hs : args.size = 1 := by simpa [Cond.value, given_1] using g1110
    obtain ⟨L⟩ := args
    match L, hs with
    | [w0], _ => exact ⟨w0, rfl⟩
  have hw := fun d (hd : d ∈ tables_1) => atoms_spec (ws := Jvm.Cond.code x code maxLocals ret :: tables_1) hat d (List.mem_cons_of_mem _ hd)
  have hfit : Fit s := fun {y c} hc i hi => by
    obtain ⟨ha, rfl⟩ := Array.getElem?_eq_some_iff.mp hc
    have q := List.all_eq_true.mp ((Array.all_eq_true_iff_forall_mem.mp hF) _ (Array.getElem_mem ha)) i (List.mem_range.mpr hi)
    simpa [Array.getElem?_eq_getElem hi] using q
  obtain ⟨hsets, hown0⟩ := atoms_of _ (rest_1_c_eq ▸ (show rest_1_c.before _ s = true from hrest))
  have hr0 := Cond.before_iff.mp hown0
  obtain ⟨a_BigDecimal_ZERO_THROUGH_TEN, ev_BigDecimal_ZERO_THROUGH_TEN⟩ := exa_v (Cond.before_iff.mp (hsets _ (List.mem_of_getElem? (i := 19) rfl)))
  have S_BigDecimal_ZERO_THROUGH_TEN : Sta s s.heap "java/math/BigDecimal" "ZERO_THROUGH_TEN" "[Ljava/math/BigDecimal;" (.ref a_BigDecimal_ZERO_THROUGH_TEN) := Sta.start ev_BigDecimal_ZERO_THROUGH_TEN (Or.inl (hsets _ (List.mem_of_getElem? (i := 1) rfl)))
  have E_BigDecimal_ZERO_THROUGH_TEN : Exa s s.heap a_BigDecimal_ZERO_THROUGH_TEN "[Ljava/math/BigDecimal;" := Exa.start ev_BigDecimal_ZERO_THROUGH_TEN (Cond.before_iff.mp (hsets _ (List.mem_of_getElem? (i := 19) rfl)))
  obtain ⟨a_BigDecimal_ZERO_SCALED_BY, ev_BigDecimal_ZERO_SCALED_BY⟩ := exa_v (Cond.before_iff.mp (hsets _ (List.mem_of_getElem? (i := 124) rfl)))
  have S_BigDecimal_ZERO_SCALED_BY : Sta s s.heap "java/math/BigDecimal" "ZERO_SCALED_BY" "[Ljava/math/BigDecimal;" (.ref a_BigDecimal_ZERO_SCALED_BY) := Sta.start ev_BigDecimal_ZERO_SCALED_BY (Or.inl (hsets _ (List.mem_of_getElem? (i := 118) rfl)))
  have E_BigDecimal_ZERO_SCALED_BY : Exa s s.heap a_BigDecimal_ZERO_SCALED_BY "[Ljava/math/BigDecimal;" := Exa.start ev_BigDecimal_ZERO_SCALED_BY (Cond.before_iff.mp (hsets _ (List.mem_of_getElem? (i := 124) rfl)))
  obtain ⟨a_BigDecimal_LONG_TEN_POWERS_TABLE, ev_BigDecimal_LONG_TEN_POWERS_TABLE⟩ := exa_v (Cond.before_iff.mp (hsets _ (List.mem_of_getElem? (i := 274) rfl)))
  have S_BigDecimal_LONG_TEN_POWERS_TABLE : Sta s s.heap "java/math/BigDecimal" "LONG_TEN_POWERS_TABLE" "[J" (.ref a_BigDecimal_LONG_TEN_POWERS_TABLE) := Sta.start ev_BigDecimal_LONG_TEN_POWERS_TABLE (Or.inl (hsets _ (List.mem_of_getElem? (i := 272) rfl)))
  have E_BigDecimal_LONG_TEN_POWERS_TABLE : Exa s s.heap a_BigDecimal_LONG_TEN_POWERS_TABLE "[J" := Exa.start ev_BigDecimal_LONG_TEN_POWERS_TABLE (Cond.before_iff.mp (hsets _ (List.mem_of_getElem? (i := 274) rfl)))
  obtain ⟨a_BigDecimal_THRESHOLDS_TABLE, ev_BigDecimal_THRESHOLDS_TABLE⟩ := exa_v (Cond.before_iff.mp (hsets _ (List.mem_of_getElem? (i := 298) rfl)))
  have S_BigDecimal_THRESHOLDS_TABLE : Sta s s.heap "java/math/BigDecimal" "THRESHOLDS_TABLE" "[J" (.ref a_BigDecimal_THRESHOLDS_TABLE) := Sta.start ev_BigDecimal_THRESHOLDS_TABLE (Or.inl (hsets _ (List.mem_of_getElem? (i := 296) rfl)))
  have E_BigDecimal_THRESHOLDS_TABLE : Exa s s.heap a_BigDecimal_THRESHOLDS_TABLE "[J" := Exa.start ev_BigDecimal_THRESHOLDS_TABLE (Cond.before_iff.mp (hsets _ (List.mem_of_getElem? (i := 298) rfl)))
  obtain ⟨a_Duration_BI_NANOS_PER_SECOND, ev_Duration_BI_NANOS_PER_SECOND⟩ := exa_v (Cond.before_iff.mp (hsets _ (List.mem_of_getElem? (i := 321) rfl)))
  have S_Duration_BI_NANOS_PER_SECOND : Sta s s.heap "java/time/Duration" "BI_NANOS_PER_SECOND" "Ljava/math/BigInteger;" (.ref a_Duration_BI_NANOS_PER_SECOND) := Sta.start ev_Duration_BI_NANOS_PER_SECOND (Or.inl (hsets _ (List.mem_of_getElem? (i := 320) rfl)))
  have E_Duration_BI_NANOS_PER_SECOND : Exa s s.heap a_Duration_BI_NANOS_PER_SECOND "java/math/BigInteger" := Exa.start ev_Duration_BI_NANOS_PER_SECOND (Cond.before_iff.mp (hsets _ (List.mem_of_getElem? (i := 321) rfl)))
  obtain ⟨a_BigInteger_ZERO, ev_BigInteger_ZERO⟩ := exa_v (Cond.before_iff.mp (hsets _ (List.mem_of_getElem? (i := 329) rfl)))
  have S_BigInteger_ZERO : Sta s s.heap "java/math/BigInteger" "ZERO" "Ljava/math/BigInteger;" (.ref a_BigInteger_ZERO) := Sta.start ev_BigInteger_ZERO (Or.inl (hsets _ (List.mem_of_getElem? (i := 5) rfl)))
  have E_BigInteger_ZERO : Exa s s.heap a_BigInteger_ZERO "java/math/BigInteger" := Exa.start ev_BigInteger_ZERO (Cond.before_iff.mp (hsets _ (List.mem_of_getElem? (i := 329) rfl)))
  obtain ⟨i0, ei0⟩ := is_v g1111
  obtain rfl : w0 = (.int i0) := Option.some.inj ei0
  obtain ⟨n1112, n1113⟩ := and_e hn
  obtain ⟨n1114, n1115⟩ := and_e n1113
  obtain ⟨a_FIRST_DELAY, ev_FIRST_DELAY⟩ := exa_v n1112
  have S_FIRST_DELAY : Sta s s.heap "com/example/services_on_tap/servicesontap/RetryBackoff" "FIRST_DELAY" "Ljava/time/Duration;" (.ref a_FIRST_DELAY) := Sta.start ev_FIRST_DELAY (Or.inr ⟨(own_t hw 3 rfl), (own_t hw 6 rfl)⟩)
  have E_FIRST_DELAY : Exa s s.heap a_FIRST_DELAY "java/time/Duration" := Exa.start ev_FIRST_DELAY n1112
  have F_FIRST_DELAY_seconds : Fld s s.heap a_FIRST_DELAY "java/time/Duration" "seconds" "J" (.long (4 : Int64)) := Fld.start ((fld_at ev_FIRST_DELAY).symm.trans (own_eqJ n1114))
  have F_FIRST_DELAY_nanos : Fld s s.heap a_FIRST_DELAY "java/time/Duration" "nanos" "I" (.int (0 : Int32)) := Fld.start ((fld_at ev_FIRST_DELAY).symm.trans (own_eqI n1115))
  have F_bz_signum := Fld.start ((fld_at (C := "java/math/BigInteger") (n := "signum") (dd := "I") ev_BigInteger_ZERO).symm.trans (own_eqI (Cond.before_iff.mp (hsets _ (List.mem_of_getElem? (i := 330) rfl)))))
  obtain ⟨m_bz, em_bz⟩ := arr_v (Cond.before_iff.mp (hsets _ (List.mem_of_getElem? (i := 331) rfl)))
  have F_bz_mag := Fld.start ((fld_at ev_BigInteger_ZERO).symm.trans em_bz)
  obtain ⟨cl_mbz, A_mbz⟩ := Arr.start em_bz (Cond.before_iff.mp (hsets _ (List.mem_of_getElem? (i := 331) rfl)))
  have z_mbz : cl_mbz.slots.size = 0 := own_szT em_bz A_mbz (own_eqI (Cond.before_iff.mp (hsets _ (List.mem_of_getElem? (i := 333) rfl)))) (by decide)
  have L_mbz : cl_mbz.slots.toList = [] := own_lst z_mbz (fun i hi => by
    have hi' : i < 0 := hi
    omega)
  have F_bn_signum := Fld.start ((fld_at (C := "java/math/BigInteger") (n := "signum") (dd := "I") ev_Duration_BI_NANOS_PER_SECOND).symm.trans (own_eqI (Cond.before_iff.mp (hsets _ (List.mem_of_getElem? (i := 322) rfl)))))
  obtain ⟨m_bn, em_bn⟩ := arr_v (Cond.before_iff.mp (hsets _ (List.mem_of_getElem? (i := 323) rfl)))
  have F_bn_mag := Fld.start ((fld_at ev_Duration_BI_NANOS_PER_SECOND).symm.trans em_bn)
  obtain ⟨cl_mbn, A_mbn⟩ := Arr.start em_bn (Cond.before_iff.mp (hsets _ (List.mem_of_getElem? (i := 323) rfl)))
  have z_mbn : cl_mbn.slots.size = 1 := own_szT em_bn A_mbn (own_eqI (Cond.before_iff.mp (hsets _ (List.mem_of_getElem? (i := 325) rfl)))) (by decide)
  have q_mbn_0 := own_q (k := 0) (by decide) (elem_in (own_eqI (Cond.before_iff.mp (hsets _ (List.mem_of_getElem? (i := 326) rfl)))) em_bn rfl A_mbn.1).2
  have L_mbn : cl_mbn.slots.toList = [(.int (1000000000 : Int32))] := own_lst z_mbn (fun i hi => by
    have hi' : i < 1 := hi
    have hc : i = 0 := by omega
    rcases hc with rfl
    · exact q_mbn_0)
  obtain ⟨zt0, ezt0⟩ := exa_v (Cond.before_iff.mp (hsets _ (List.mem_of_getElem? (i := 22) rfl)))
  obtain ⟨zt1, ezt1⟩ := exa_v (Cond.before_iff.mp (hsets _ (List.mem_of_getElem? (i := 32) rfl)))
  obtain ⟨zt2, ezt2⟩ := exa_v (Cond.before_iff.mp (hsets _ (List.mem_of_getElem? (i := 42) rfl)))
  obtain ⟨zt3, ezt3⟩ := exa_v (Cond.before_iff.mp (hsets _ (List.mem_of_getElem? (i := 51) rfl)))
  obtain ⟨zt4, ezt4⟩ := exa_v (Cond.before_iff.mp (hsets _ (List.mem_of_getElem? (i := 59) rfl)))
  obtain ⟨zt5, ezt5⟩ := exa_v (Cond.before_iff.mp (hsets _ (List.mem_of_getElem? (i := 67) rfl)))
  obtain ⟨zt6, ezt6⟩ := exa_v (Cond.before_iff.mp (hsets _ (List.mem_of_getElem? (i := 75) rfl)))
  obtain ⟨zt7, ezt7⟩ := exa_v (Cond.before_iff.mp (hsets _ (List.mem_of_getElem? (i := 83) rfl)))
  obtain ⟨zt8, ezt8⟩ := exa_v (Cond.before_iff.mp (hsets _ (List.mem_of_getElem? (i := 91) rfl)))
  obtain ⟨zt9, ezt9⟩ := exa_v (Cond.before_iff.mp (hsets _ (List.mem_of_getElem? (i := 99) rfl)))
  obtain ⟨zt10, ezt10⟩ := exa_v (Cond.before_iff.mp (hsets _ (List.mem_of_getElem? (i := 108) rfl)))
  obtain ⟨cl_zt, A_zt⟩ := Arr.start ev_BigDecimal_ZERO_THROUGH_TEN (Cond.before_iff.mp (hsets _ (List.mem_of_getElem? (i := 18) rfl)))
  have z_zt : cl_zt.slots.size = 11 := own_szT ev_BigDecimal_ZERO_THROUGH_TEN A_zt (own_eqI (Cond.before_iff.mp (hsets _ (List.mem_of_getElem? (i := 20) rfl)))) (by decide)
  have q_zt_0 := own_q (k := 0) (by decide) (elem_in ezt0 ev_BigDecimal_ZERO_THROUGH_TEN rfl A_zt.1).2
  have q_zt_1 := own_q (k := 1) (by decide) (elem_in ezt1 ev_BigDecimal_ZERO_THROUGH_TEN rfl A_zt.1).2
  have q_zt_2 := own_q (k := 2) (by decide) (elem_in ezt2 ev_BigDecimal_ZERO_THROUGH_TEN rfl A_zt.1).2
  have q_zt_3 := own_q (k := 3) (by decide) (elem_in ezt3 ev_BigDecimal_ZERO_THROUGH_TEN rfl A_zt.1).2
  have q_zt_4 := own_q (k := 4) (by decide) (elem_in ezt4 ev_BigDecimal_ZERO_THROUGH_TEN rfl A_zt.1).2
  have q_zt_5 := own_q (k := 5) (by decide) (elem_in ezt5 ev_BigDecimal_ZERO_THROUGH_TEN rfl A_zt.1).2
  have q_zt_6 := own_q (k := 6) (by decide) (elem_in ezt6 ev_BigDecimal_ZERO_THROUGH_TEN rfl A_zt.1).2
  have q_zt_7 := own_q (k := 7) (by decide) (elem_in ezt7 ev_BigDecimal_ZERO_THROUGH_TEN rfl A_zt.1).2
  have q_zt_8 := own_q (k := 8) (by decide) (elem_in ezt8 ev_BigDecimal_ZERO_THROUGH_TEN rfl A_zt.1).2
  have q_zt_9 := own_q (k := 9) (by decide) (elem_in ezt9 ev_BigDecimal_ZERO_THROUGH_TEN rfl A_zt.1).2
  have q_zt_10 := own_q (k := 10) (by decide) (elem_in ezt10 ev_BigDecimal_ZERO_THROUGH_TEN rfl A_zt.1).2
  have L_zt : cl_zt.slots.toList = [(.ref zt0), (.ref zt1), (.ref zt2), (.ref zt3), (.ref zt4), (.ref zt5), (.ref zt6), (.ref zt7), (.ref zt8), (.ref zt9), (.ref zt10)] := own_lst z_zt (fun i hi => by
    have hi' : i < 11 := hi
    have hc : i = 0 ∨ i = 1 ∨ i = 2 ∨ i = 3 ∨ i = 4 ∨ i = 5 ∨ i = 6 ∨ i = 7 ∨ i = 8 ∨ i = 9 ∨ i = 10 := by omega
    rcases hc with rfl | rfl | rfl | rfl | rfl | rfl | rfl | rfl | rfl | rfl | rfl
    · exact q_zt_0
    · exact q_zt_1
    · exact q_zt_2
    · exact q_zt_3
    · exact q_zt_4
    · exact q_zt_5
    · exact q_zt_6
    · exact q_zt_7
    · exact q_zt_8
    · exact q_zt_9
    · exact q_zt_10)
  have E_zt2 := Exa.start ezt2 (Cond.before_iff.mp (hsets _ (List.mem_of_getElem? (i := 42) rfl)))
  have C_zt2 := Fld.start ((fld_at ezt2).symm.trans (own_eqJ (Cond.before_iff.mp (hsets _ (List.mem_of_getElem? (i := 44) rfl)))))
  have G_zt2 := Fld.start ((fld_at ezt2).symm.trans (own_eqI (Cond.before_iff.mp (hsets _ (List.mem_of_getElem? (i := 43) rfl)))))
  have E_zt4 := Exa.start ezt4 (Cond.before_iff.mp (hsets _ (List.mem_of_getElem? (i := 59) rfl)))
  have C_zt4 := Fld.start ((fld_at ezt4).symm.trans (own_eqJ (Cond.before_iff.mp (hsets _ (List.mem_of_getElem? (i := 61) rfl)))))
  have G_zt4 := Fld.start ((fld_at ezt4).symm.trans (own_eqI (Cond.before_iff.mp (hsets _ (List.mem_of_getElem? (i := 60) rfl)))))
  have E_zt8 := Exa.start ezt8 (Cond.before_iff.mp (hsets _ (List.mem_of_getElem? (i := 91) rfl)))
  have C_zt8 := Fld.start ((fld_at ezt8).symm.trans (own_eqJ (Cond.before_iff.mp (hsets _ (List.mem_of_getElem? (i := 93) rfl)))))
  have G_zt8 := Fld.start ((fld_at ezt8).symm.trans (own_eqI (Cond.before_iff.mp (hsets _ (List.mem_of_getElem? (i := 92) rfl)))))
  obtain ⟨zs0, ezs0⟩ := exa_v (Cond.before_iff.mp (hsets _ (List.mem_of_getElem? (i := 127) rfl)))
  obtain ⟨zs1, ezs1⟩ := exa_v (Cond.before_iff.mp (hsets _ (List.mem_of_getElem? (i := 136) rfl)))
  obtain ⟨zs2, ezs2⟩ := exa_v (Cond.before_iff.mp (hsets _ (List.mem_of_getElem? (i := 145) rfl)))
  obtain ⟨zs3, ezs3⟩ := exa_v (Cond.before_iff.mp (hsets _ (List.mem_of_getElem? (i := 154) rfl)))
  obtain ⟨zs4, ezs4⟩ := exa_v (Cond.before_iff.mp (hsets _ (List.mem_of_getElem? (i := 163) rfl)))
  obtain ⟨zs5, ezs5⟩ := exa_v (Cond.before_iff.mp (hsets _ (List.mem_of_getElem? (i := 172) rfl)))
  obtain ⟨zs6, ezs6⟩ := exa_v (Cond.before_iff.mp (hsets _ (List.mem_of_getElem? (i := 181) rfl)))
  obtain ⟨zs7, ezs7⟩ := exa_v (Cond.before_iff.mp (hsets _ (List.mem_of_getElem? (i := 190) rfl)))
  obtain ⟨zs8, ezs8⟩ := exa_v (Cond.before_iff.mp (hsets _ (List.mem_of_getElem? (i := 199) rfl)))
  obtain ⟨zs9, ezs9⟩ := exa_v (Cond.before_iff.mp (hsets _ (List.mem_of_getElem? (i := 208) rfl)))
  obtain ⟨zs10, ezs10⟩ := exa_v (Cond.before_iff.mp (hsets _ (List.mem_of_getElem? (i := 217) rfl)))
  obtain ⟨zs11, ezs11⟩ := exa_v (Cond.before_iff.mp (hsets _ (List.mem_of_getElem? (i := 226) rfl)))
  obtain ⟨zs12, ezs12⟩ := exa_v (Cond.before_iff.mp (hsets _ (List.mem_of_getElem? (i := 235) rfl)))
  obtain ⟨zs13, ezs13⟩ := exa_v (Cond.before_iff.mp (hsets _ (List.mem_of_getElem? (i := 244) rfl)))
  obtain ⟨zs14, ezs14⟩ := exa_v (Cond.before_iff.mp (hsets _ (List.mem_of_getElem? (i := 253) rfl)))
  obtain ⟨zs15, ezs15⟩ := exa_v (Cond.before_iff.mp (hsets _ (List.mem_of_getElem? (i := 262) rfl)))
  obtain ⟨cl_zs, A_zs⟩ := Arr.start ev_BigDecimal_ZERO_SCALED_BY (Cond.before_iff.mp (hsets _ (List.mem_of_getElem? (i := 123) rfl)))
  have z_zs : cl_zs.slots.size = 16 := own_szT ev_BigDecimal_ZERO_SCALED_BY A_zs (own_eqI (Cond.before_iff.mp (hsets _ (List.mem_of_getElem? (i := 125) rfl)))) (by decide)
  have q_zs_0 := own_q (k := 0) (by decide) (elem_in ezs0 ev_BigDecimal_ZERO_SCALED_BY rfl A_zs.1).2
  have q_zs_1 := own_q (k := 1) (by decide) (elem_in ezs1 ev_BigDecimal_ZERO_SCALED_BY rfl A_zs.1).2
  have q_zs_2 := own_q (k := 2) (by decide) (elem_in ezs2 ev_BigDecimal_ZERO_SCALED_BY rfl A_zs.1).2
  have q_zs_3 := own_q (k := 3) (by decide) (elem_in ezs3 ev_BigDecimal_ZERO_SCALED_BY rfl A_zs.1).2
  have q_zs_4 := own_q (k := 4) (by decide) (elem_in ezs4 ev_BigDecimal_ZERO_SCALED_BY rfl A_zs.1).2
  have q_zs_5 := own_q (k := 5) (by decide) (elem_in ezs5 ev_BigDecimal_ZERO_SCALED_BY rfl A_zs.1).2
  have q_zs_6 := own_q (k := 6) (by decide) (elem_in ezs6 ev_BigDecimal_ZERO_SCALED_BY rfl A_zs.1).2
  have q_zs_7 := own_q (k := 7) (by decide) (elem_in ezs7 ev_BigDecimal_ZERO_SCALED_BY rfl A_zs.1).2
  have q_zs_8 := own_q (k := 8) (by decide) (elem_in ezs8 ev_BigDecimal_ZERO_SCALED_BY rfl A_zs.1).2
  have q_zs_9 := own_q (k := 9) (by decide) (elem_in ezs9 ev_BigDecimal_ZERO_SCALED_BY rfl A_zs.1).2
  have q_zs_10 := own_q (k := 10) (by decide) (elem_in ezs10 ev_BigDecimal_ZERO_SCALED_BY rfl A_zs.1).2
  have q_zs_11 := own_q (k := 11) (by decide) (elem_in ezs11 ev_BigDecimal_ZERO_SCALED_BY rfl A_zs.1).2
  have q_zs_12 := own_q (k := 12) (by decide) (elem_in ezs12 ev_BigDecimal_ZERO_SCALED_BY rfl A_zs.1).2
  have q_zs_13 := own_q (k := 13) (by decide) (elem_in ezs13 ev_BigDecimal_ZERO_SCALED_BY rfl A_zs.1).2
  have q_zs_14 := own_q (k := 14) (by decide) (elem_in ezs14 ev_BigDecimal_ZERO_SCALED_BY rfl A_zs.1).2
  have q_zs_15 := own_q (k := 15) (by decide) (elem_in ezs15 ev_BigDecimal_ZERO_SCALED_BY rfl A_zs.1).2
  have L_zs : cl_zs.slots.toList = [(.ref zs0), (.ref zs1), (.ref zs2), (.ref zs3), (.ref zs4), (.ref zs5), (.ref zs6), (.ref zs7), (.ref zs8), (.ref zs9), (.ref zs10), (.ref zs11), (.ref zs12), (.ref zs13), (.ref zs14), (.ref zs15)] := own_lst z_zs (fun i hi => by
    have hi' : i < 16 := hi
    have hc : i = 0 ∨ i = 1 ∨ i = 2 ∨ i = 3 ∨ i = 4 ∨ i = 5 ∨ i = 6 ∨ i = 7 ∨ i = 8 ∨ i = 9 ∨ i = 10 ∨ i = 11 ∨ i = 12 ∨ i = 13 ∨ i = 14 ∨ i = 15 := by omega
    rcases hc with rfl | rfl | rfl | rfl | rfl | rfl | rfl | rfl | rfl | rfl | rfl | rfl | rfl | rfl | rfl | rfl
    · exact q_zs_0
    · exact q_zs_1
    · exact q_zs_2
    · exact q_zs_3
    · exact q_zs_4
    · exact q_zs_5
    · exact q_zs_6
    · exact q_zs_7
    · exact q_zs_8
    · exact q_zs_9
    · exact q_zs_10
    · exact q_zs_11
    · exact q_zs_12
    · exact q_zs_13
    · exact q_zs_14
    · exact q_zs_15)
  have E_zs9 := Exa.start ezs9 (Cond.before_iff.mp (hsets _ (List.mem_of_getElem? (i := 208) rfl)))
  have C_zs9 := Fld.start ((fld_at ezs9).symm.trans (own_eqJ (Cond.before_iff.mp (hsets _ (List.mem_of_getElem? (i := 210) rfl)))))
  have G_zs9 := Fld.start ((fld_at ezs9).symm.trans (own_eqI (Cond.before_iff.mp (hsets _ (List.mem_of_getElem? (i := 209) rfl)))))
  obtain ⟨cl_lt, A_lt⟩ := Arr.start ev_BigDecimal_LONG_TEN_POWERS_TABLE (Cond.before_iff.mp (hsets _ (List.mem_of_getElem? (i := 273) rfl)))
  have z_lt : cl_lt.slots.size = 19 := own_szT ev_BigDecimal_LONG_TEN_POWERS_TABLE A_lt (own_eqI (Cond.before_iff.mp (hsets _ (List.mem_of_getElem? (i := 275) rfl)))) (by decide)
  have q_lt_0 := own_q (k := 0) (by decide) (elem_in (own_eqJ (Cond.before_iff.mp (hsets _ (List.mem_of_getElem? (i := 276) rfl)))) ev_BigDecimal_LONG_TEN_POWERS_TABLE rfl A_lt.1).2
  have q_lt_1 := own_q (k := 1) (by decide) (elem_in (own_eqJ (Cond.before_iff.mp (hsets _ (List.mem_of_getElem? (i := 277) rfl)))) ev_BigDecimal_LONG_TEN_POWERS_TABLE rfl A_lt.1).2
  have q_lt_2 := own_q (k := 2) (by decide) (elem_in (own_eqJ (Cond.before_iff.mp (hsets _ (List.mem_of_getElem? (i := 278) rfl)))) ev_BigDecimal_LONG_TEN_POWERS_TABLE rfl A_lt.1).2
  have q_lt_3 := own_q (k := 3) (by decide) (elem_in (own_eqJ (Cond.before_iff.mp (hsets _ (List.mem_of_getElem? (i := 279) rfl)))) ev_BigDecimal_LONG_TEN_POWERS_TABLE rfl A_lt.1).2
  have q_lt_4 := own_q (k := 4) (by decide) (elem_in (own_eqJ (Cond.before_iff.mp (hsets _ (List.mem_of_getElem? (i := 280) rfl)))) ev_BigDecimal_LONG_TEN_POWERS_TABLE rfl A_lt.1).2
  have q_lt_5 := own_q (k := 5) (by decide) (elem_in (own_eqJ (Cond.before_iff.mp (hsets _ (List.mem_of_getElem? (i := 281) rfl)))) ev_BigDecimal_LONG_TEN_POWERS_TABLE rfl A_lt.1).2
  have q_lt_6 := own_q (k := 6) (by decide) (elem_in (own_eqJ (Cond.before_iff.mp (hsets _ (List.mem_of_getElem? (i := 282) rfl)))) ev_BigDecimal_LONG_TEN_POWERS_TABLE rfl A_lt.1).2
  have q_lt_7 := own_q (k := 7) (by decide) (elem_in (own_eqJ (Cond.before_iff.mp (hsets _ (List.mem_of_getElem? (i := 283) rfl)))) ev_BigDecimal_LONG_TEN_POWERS_TABLE rfl A_lt.1).2
  have q_lt_8 := own_q (k := 8) (by decide) (elem_in (own_eqJ (Cond.before_iff.mp (hsets _ (List.mem_of_getElem? (i := 284) rfl)))) ev_BigDecimal_LONG_TEN_POWERS_TABLE rfl A_lt.1).2
  have q_lt_9 := own_q (k := 9) (by decide) (elem_in (own_eqJ (Cond.before_iff.mp (hsets _ (List.mem_of_getElem? (i := 285) rfl)))) ev_BigDecimal_LONG_TEN_POWERS_TABLE rfl A_lt.1).2
  have q_lt_10 := own_q (k := 10) (by decide) (elem_in (own_eqJ (Cond.before_iff.mp (hsets _ (List.mem_of_getElem? (i := 286) rfl)))) ev_BigDecimal_LONG_TEN_POWERS_TABLE rfl A_lt.1).2
  have q_lt_11 := own_q (k := 11) (by decide) (elem_in (own_eqJ (Cond.before_iff.mp (hsets _ (List.mem_of_getElem? (i := 287) rfl)))) ev_BigDecimal_LONG_TEN_POWERS_TABLE rfl A_lt.1).2
  have q_lt_12 := own_q (k := 12) (by decide) (elem_in (own_eqJ (Cond.before_iff.mp (hsets _ (List.mem_of_getElem? (i := 288) rfl)))) ev_BigDecimal_LONG_TEN_POWERS_TABLE rfl A_lt.1).2
  have q_lt_13 := own_q (k := 13) (by decide) (elem_in (own_eqJ (Cond.before_iff.mp (hsets _ (List.mem_of_getElem? (i := 289) rfl)))) ev_BigDecimal_LONG_TEN_POWERS_TABLE rfl A_lt.1).2
  have q_lt_14 := own_q (k := 14) (by decide) (elem_in (own_eqJ (Cond.before_iff.mp (hsets _ (List.mem_of_getElem? (i := 290) rfl)))) ev_BigDecimal_LONG_TEN_POWERS_TABLE rfl A_lt.1).2
  have q_lt_15 := own_q (k := 15) (by decide) (elem_in (own_eqJ (Cond.before_iff.mp (hsets _ (List.mem_of_getElem? (i := 291) rfl)))) ev_BigDecimal_LONG_TEN_POWERS_TABLE rfl A_lt.1).2
  have q_lt_16 := own_q (k := 16) (by decide) (elem_in (own_eqJ (Cond.before_iff.mp (hsets _ (List.mem_of_getElem? (i := 292) rfl)))) ev_BigDecimal_LONG_TEN_POWERS_TABLE rfl A_lt.1).2
  have q_lt_17 := own_q (k := 17) (by decide) (elem_in (own_eqJ (Cond.before_iff.mp (hsets _ (List.mem_of_getElem? (i := 293) rfl)))) ev_BigDecimal_LONG_TEN_POWERS_TABLE rfl A_lt.1).2
  have q_lt_18 := own_q (k := 18) (by decide) (elem_in (own_eqJ (Cond.before_iff.mp (hsets _ (List.mem_of_getElem? (i := 294) rfl)))) ev_BigDecimal_LONG_TEN_POWERS_TABLE rfl A_lt.1).2
  have L_lt : cl_lt.slots.toList = [(.long (1 : Int64)), (.long (10 : Int64)), (.long (100 : Int64)), (.long (1000 : Int64)), (.long (10000 : Int64)), (.long (100000 : Int64)), (.long (1000000 : Int64)), (.long (10000000 : Int64)), (.long (100000000 : Int64)), (.long (1000000000 : Int64)), (.long (10000000000 : Int64)), (.long (100000000000 : Int64)), (.long (1000000000000 : Int64)), (.long (10000000000000 : Int64)), (.long (100000000000000 : Int64)), (.long (1000000000000000 : Int64)), (.long (10000000000000000 : Int64)), (.long (100000000000000000 : Int64)), (.long (1000000000000000000 : Int64))] := own_lst z_lt (fun i hi => by
    have hi' : i < 19 := hi
    have hc : i = 0 ∨ i = 1 ∨ i = 2 ∨ i = 3 ∨ i = 4 ∨ i = 5 ∨ i = 6 ∨ i = 7 ∨ i = 8 ∨ i = 9 ∨ i = 10 ∨ i = 11 ∨ i = 12 ∨ i = 13 ∨ i = 14 ∨ i = 15 ∨ i = 16 ∨ i = 17 ∨ i = 18 := by omega
    rcases hc with rfl | rfl | rfl | rfl | rfl | rfl | rfl | rfl | rfl | rfl | rfl | rfl | rfl | rfl | rfl | rfl | rfl | rfl | rfl
    · exact q_lt_0
    · exact q_lt_1
    · exact q_lt_2
    · exact q_lt_3
    · exact q_lt_4
    · exact q_lt_5
    · exact q_lt_6
    · exact q_lt_7
    · exact q_lt_8
    · exact q_lt_9
    · exact q_lt_10
    · exact q_lt_11
    · exact q_lt_12
    · exact q_lt_13
    · exact q_lt_14
    · exact q_lt_15
    · exact q_lt_16
    · exact q_lt_17
    · exact q_lt_18)
  obtain ⟨cl_tt, A_tt⟩ := Arr.start ev_BigDecimal_THRESHOLDS_TABLE (Cond.before_iff.mp (hsets _ (List.mem_of_getElem? (i := 297) rfl)))
  have z_tt : cl_tt.slots.size = 19 := own_szT ev_BigDecimal_THRESHOLDS_TABLE A_tt (own_eqI (Cond.before_iff.mp (hsets _ (List.mem_of_getElem? (i := 299) rfl)))) (by decide)
  have q_tt_0 := own_q (k := 0) (by decide) (elem_in (own_eqJ (Cond.before_iff.mp (hsets _ (List.mem_of_getElem? (i := 300) rfl)))) ev_BigDecimal_THRESHOLDS_TABLE rfl A_tt.1).2
  have q_tt_1 := own_q (k := 1) (by decide) (elem_in (own_eqJ (Cond.before_iff.mp (hsets _ (List.mem_of_getElem? (i := 301) rfl)))) ev_BigDecimal_THRESHOLDS_TABLE rfl A_tt.1).2
  have q_tt_2 := own_q (k := 2) (by decide) (elem_in (own_eqJ (Cond.before_iff.mp (hsets _ (List.mem_of_getElem? (i := 302) rfl)))) ev_BigDecimal_THRESHOLDS_TABLE rfl A_tt.1).2
  have q_tt_3 := own_q (k := 3) (by decide) (elem_in (own_eqJ (Cond.before_iff.mp (hsets _ (List.mem_of_getElem? (i := 303) rfl)))) ev_BigDecimal_THRESHOLDS_TABLE rfl A_tt.1).2
  have q_tt_4 := own_q (k := 4) (by decide) (elem_in (own_eqJ (Cond.before_iff.mp (hsets _ (List.mem_of_getElem? (i := 304) rfl)))) ev_BigDecimal_THRESHOLDS_TABLE rfl A_tt.1).2
  have q_tt_5 := own_q (k := 5) (by decide) (elem_in (own_eqJ (Cond.before_iff.mp (hsets _ (List.mem_of_getElem? (i := 305) rfl)))) ev_BigDecimal_THRESHOLDS_TABLE rfl A_tt.1).2
  have q_tt_6 := own_q (k := 6) (by decide) (elem_in (own_eqJ (Cond.before_iff.mp (hsets _ (List.mem_of_getElem? (i := 306) rfl)))) ev_BigDecimal_THRESHOLDS_TABLE rfl A_tt.1).2
  have q_tt_7 := own_q (k := 7) (by decide) (elem_in (own_eqJ (Cond.before_iff.mp (hsets _ (List.mem_of_getElem? (i := 307) rfl)))) ev_BigDecimal_THRESHOLDS_TABLE rfl A_tt.1).2
  have q_tt_8 := own_q (k := 8) (by decide) (elem_in (own_eqJ (Cond.before_iff.mp (hsets _ (List.mem_of_getElem? (i := 308) rfl)))) ev_BigDecimal_THRESHOLDS_TABLE rfl A_tt.1).2
  have q_tt_9 := own_q (k := 9) (by decide) (elem_in (own_eqJ (Cond.before_iff.mp (hsets _ (List.mem_of_getElem? (i := 309) rfl)))) ev_BigDecimal_THRESHOLDS_TABLE rfl A_tt.1).2
  have q_tt_10 := own_q (k := 10) (by decide) (elem_in (own_eqJ (Cond.before_iff.mp (hsets _ (List.mem_of_getElem? (i := 310) rfl)))) ev_BigDecimal_THRESHOLDS_TABLE rfl A_tt.1).2
  have q_tt_11 := own_q (k := 11) (by decide) (elem_in (own_eqJ (Cond.before_iff.mp (hsets _ (List.mem_of_getElem? (i := 311) rfl)))) ev_BigDecimal_THRESHOLDS_TABLE rfl A_tt.1).2
  have q_tt_12 := own_q (k := 12) (by decide) (elem_in (own_eqJ (Cond.before_iff.mp (hsets _ (List.mem_of_getElem? (i := 312) rfl)))) ev_BigDecimal_THRESHOLDS_TABLE rfl A_tt.1).2
  have q_tt_13 := own_q (k := 13) (by decide) (elem_in (own_eqJ (Cond.before_iff.mp (hsets _ (List.mem_of_getElem? (i := 313) rfl)))) ev_BigDecimal_THRESHOLDS_TABLE rfl A_tt.1).2
  have q_tt_14 := own_q (k := 14) (by decide) (elem_in (own_eqJ (Cond.before_iff.mp (hsets _ (List.mem_of_getElem? (i := 314) rfl)))) ev_BigDecimal_THRESHOLDS_TABLE rfl A_tt.1).2
  have q_tt_15 := own_q (k := 15) (by decide) (elem_in (own_eqJ (Cond.before_iff.mp (hsets _ (List.mem_of_getElem? (i := 315) rfl)))) ev_BigDecimal_THRESHOLDS_TABLE rfl A_tt.1).2
  have q_tt_16 := own_q (k := 16) (by decide) (elem_in (own_eqJ (Cond.before_iff.mp (hsets _ (List.mem_of_getElem? (i := 316) rfl)))) ev_BigDecimal_THRESHOLDS_TABLE rfl A_tt.1).2
  have q_tt_17 := own_q (k := 17) (by decide) (elem_in (own_eqJ (Cond.before_iff.mp (hsets _ (List.mem_of_getElem? (i := 317) rfl)))) ev_BigDecimal_THRESHOLDS_TABLE rfl A_tt.1).2
  have q_tt_18 := own_q (k := 18) (by decide) (elem_in (own_eqJ (Cond.before_iff.mp (hsets _ (List.mem_of_getElem? (i := 318) rfl)))) ev_BigDecimal_THRESHOLDS_TABLE rfl A_tt.1).2
  have L_tt : cl_tt.slots.toList = [(.long (9223372036854775807 : Int64)), (.long (922337203685477580 : Int64)), (.long (92233720368547758 : Int64)), (.long (9223372036854775 : Int64)), (.long (922337203685477 : Int64)), (.long (92233720368547 : Int64)), (.long (9223372036854 : Int64)), (.long (922337203685 : Int64)), (.long (92233720368 : Int64)), (.long (9223372036 : Int64)), (.long (922337203 : Int64)), (.long (92233720 : Int64)), (.long (9223372 : Int64)), (.long (922337 : Int64)), (.long (92233 : Int64)), (.long (9223 : Int64)), (.long (922 : Int64)), (.long (92 : Int64)), (.long (9 : Int64))] := own_lst z_tt (fun i hi => by
    have hi' : i < 19 := hi
    have hc : i = 0 ∨ i = 1 ∨ i = 2 ∨ i = 3 ∨ i = 4 ∨ i = 5 ∨ i = 6 ∨ i = 7 ∨ i = 8 ∨ i = 9 ∨ i = 10 ∨ i = 11 ∨ i = 12 ∨ i = 13 ∨ i = 14 ∨ i = 15 ∨ i = 16 ∨ i = 17 ∨ i = 18 := by omega
    rcases hc with rfl | rfl | rfl | rfl | rfl | rfl | rfl | rfl | rfl | rfl | rfl | rfl | rfl | rfl | rfl | rfl | rfl | rfl | rfl
    · exact q_tt_0
    · exact q_tt_1
    · exact q_tt_2
    · exact q_tt_3
    · exact q_tt_4
    · exact q_tt_5
    · exact q_tt_6
    · exact q_tt_7
    · exact q_tt_8
    · exact q_tt_9
    · exact q_tt_10
    · exact q_tt_11
    · exact q_tt_12
    · exact q_tt_13
    · exact q_tt_14
    · exact q_tt_15
    · exact q_tt_16
    · exact q_tt_17
    · exact q_tt_18)
  have hK : own_K s #[.int i0] (fun j => List.getD [a_BigInteger_ZERO, m_bz, zt0, 0, 0, zt1, 0, 0, zt2, 0, 0, zt3, 0, 0, zt4, 0, 0, zt5, 0, 0, zt6, 0, 0, zt7, 0, 0, zt8, 0, 0, zt9, 0, 0, zt10, zs0, zs1, zs2, zs3, zs4, zs5, zs6, zs7, zs8, zs9, zs10, zs11, zs12, zs13, zs14, zs15, a_BigDecimal_ZERO_THROUGH_TEN, a_BigDecimal_ZERO_SCALED_BY, a_FIRST_DELAY, a_BigDecimal_LONG_TEN_POWERS_TABLE, a_BigDecimal_THRESHOLDS_TABLE, a_Duration_BI_NANOS_PER_SECOND, m_bn] j 0) := ⟨hw, S_BigDecimal_ZERO_THROUGH_TEN, S_BigDecimal_ZERO_SCALED_BY, S_BigDecimal_LONG_TEN_POWERS_TABLE, S_BigDecimal_THRESHOLDS_TABLE, S_Duration_BI_NANOS_PER_SECOND, S_BigInteger_ZERO, S_FIRST_DELAY, E_BigInteger_ZERO, F_bz_signum, F_bz_mag, ⟨cl_mbz, A_mbz, L_mbz⟩, E_zt2, C_zt2, G_zt2, E_zt4, C_zt4, G_zt4, E_zt8, C_zt8, G_zt8, E_zs9, C_zs9, G_zs9, ⟨cl_zt, A_zt, L_zt⟩, ⟨cl_zs, A_zs, L_zs⟩, E_FIRST_DELAY, F_FIRST_DELAY_seconds, F_FIRST_DELAY_nanos, ⟨cl_lt, A_lt, L_lt⟩, ⟨cl_tt, A_tt, L_tt⟩, E_Duration_BI_NANOS_PER_SECOND, F_bn_signum, F_bn_mag, ⟨cl_mbn, A_mbn, L_mbn⟩, trivial⟩
  obtain ⟨n, o, h1, h2, h3, _, L, rfl, ⟨rfl, N⟩, hq⟩ := rm0 l s _ hw tables_1 i0 _ s.heap s.heap.size (Old.start s) hK p e ha hc hk s m _ below hf ((Spec.applies_iff_loose hf).mp happ).1 ⟨rfl, State.Warmed39.refl s, rfl⟩ trivial
  refine ⟨n, _, h1, h2, h3, hpost _ _ _ _ _ _ ⟨Cond.after_iff.mpr rfl, Cond.after_iff.mpr (eq_i res_at (Term.int_eval (1)) rfl), trivial⟩ ⟨hq.1, hq.2.1, (hq.2.2.sift fun y hy => Or.inr (N y hy)).mono (by decide) (by decide)⟩⟩
theorem main_1_1 : Claimed_1_1 := comes_1 fun _ _ _ _ _ _ h hF => ⟨h.1, hF⟩
theorem main_1_2 : Claimed_1_2 := comes_1 fun _ _ _ _ _ _ h hF => ⟨h.2.1, hF⟩
end Jvm.Pilot.@@N@@
namespace Jvm.Pilot.@@N@@
open Jvm Jvm.ClassFile Sem Op Lib Jvm.Free Jvm.Stand Jvm.Pilot.@@N@@.Jvm.D
/-! MADE BY PROGRAM (witnessworld.py) out of the Statement's table words and the real class files: 26 classes; the members and pool entries that the words name. The judged class is class 1, her method 1. -/
namespace start1
open Jvm.ClassFile
def u (s : String) : CpInfo := .utf8 (stringToUtf16 s)
/-- a pool by its gaps: so many unusable entries, then the entry; so many at the end -/
def gap : Nat → List CpInfo → List CpInfo
  | 0, r => r
  | n + 1, r => .unusable :: gap n r
def poolList (es : List (Nat × CpInfo)) (last : Nat) : List CpInfo := es.foldr (fun e r => gap e.1 (e.2 :: r)) (gap last [])
def pool (es : List (Nat × CpInfo)) (last : Nat) : Array CpInfo := ⟨poolList es last⟩
def fileOf (pool : Array CpInfo) (this : Nat) (attrs : Array Attribute := #[]) (ms : Array MethodInfo := #[]) (fl : Nat := 33) (sup : Nat := 0) (ifs : Array Nat := #[]) (fds : Array FieldInfo := #[]) : ClassFile where
  minorVersion := 0
  majorVersion := 65
  constantPool := pool
  accessFlags := fl
  thisClass := this
  superClass := sup
  interfaces := ifs
  fields := fds
  methods := ms
  attributes := attrs
def plain (name : String) (sup : Option ClassId) : Class where
  name := name
  kind := .ordinary
  loader := none
  accessFlags := 33
  super := sup
  interfaces := #[]
  cf := none
  fields := #[]
  methods := #[]
  instanceTypes := #[]
  staticTypes := #[]
  resolved := #[]
  callSites := []
  init := .initialized
  statics := none
  mirror := none

def pool0 : Array CpInfo := pool [(5, u "<init>"), (0, u "()V"), (1, .class_ 10), (1, u "java/lang/Object")] 113

def k0c0 : Code := { maxStack := 0, maxLocals := 1, code := object_method_1_code, exceptionTable := #[], attributes := #[] }
def k0m0 : Method := { name := "<init>", desc := "()V", sig := { parameters := [], returnType := none }, accessFlags := 1, code := some k0c0 }
/-- java/lang/Object -/
def k0 : Class := { plain "java/lang/Object" none with
  accessFlags := 33
  interfaces := #[]
  cf := some (fileOf pool0 8 #[] #[{ accessFlags := 1, nameIndex := 5, descriptorIndex := 6, attributes := #[] }] 33 0 #[] #[])
  fields := #[]
  methods := #[k0m0]
  instanceTypes := #[]
  staticTypes := #[]
  resolved := Array.replicate 124 none
  statics := none }

def pool1 : Array CpInfo := pool [(2, .class_ 4), (1, u "java/lang/Object"), (0, u "<init>"), (0, u "()V"), (0, .integer 2147483647), (0, .methodref 9 10), (0, .class_ 11), (0, .nameAndType 12 13), (0, u "com/example/services_on_tap/servicesontap/RetryBackoff"), (0, u "delayBefore"), (0, u "(I)Ljava/time/Duration;"), (0, .methodref 15 16), (0, .class_ 17), (0, .nameAndType 18 19), (0, u "java/time/Duration"), (0, u "getSeconds"), (0, u "()J"), (0, .methodref 15 21), (0, .nameAndType 22 23), (0, u "getNano"), (0, u "()I"), (0, .class_ 25), (0, u "com/example/services_on_tap/servicesontap/RetryBackoffDelayBeforePinLaw"), (2, u "law"), (0, u "(I)Z")] 3

def k1m0 : Method := { name := "<init>", desc := "()V", sig := { parameters := [], returnType := none }, accessFlags := 2, code := none }
def k1c1 : Code := { maxStack := 4, maxLocals := 5, code := code, exceptionTable := #[], attributes := #[] }
def k1m1 : Method := { name := "law", desc := "(I)Z", sig := { parameters := [.int], returnType := some .boolean }, accessFlags := 9, code := some k1c1 }
/-- com/example/services_on_tap/servicesontap/RetryBackoffDelayBeforePinLaw -/
def k1 : Class := { plain "com/example/services_on_tap/servicesontap/RetryBackoffDelayBeforePinLaw" (some 0) with
  accessFlags := 49
  interfaces := #[]
  cf := some (fileOf pool1 24 #[] #[{ accessFlags := 2, nameIndex := 5, descriptorIndex := 6, attributes := #[] }, { accessFlags := 9, nameIndex := 28, descriptorIndex := 29, attributes := #[] }] 49 2 #[] #[])
  fields := #[]
  methods := #[k1m0, k1m1]
  instanceTypes := #[]
  staticTypes := #[]
  resolved := Array.replicate 33 none
  statics := none }

def pool2 : Array CpInfo := pool [(2, .class_ 4), (1, u "java/lang/Object"), (0, u "<init>"), (0, u "()V"), (0, .class_ 8), (0, u "com/example/services_on_tap/servicesontap/RetryBackoff"), (9, .fieldref 7 19), (0, .nameAndType 20 21), (0, u "FIRST_DELAY"), (0, u "Ljava/time/Duration;"), (0, .methodref 23 24), (0, .class_ 25), (0, .nameAndType 26 27), (0, u "java/time/Duration"), (0, u "multipliedBy"), (0, u "(J)Ljava/time/Duration;"), (5, u "LAST_RETRY"), (0, u "I"), (4, u "delayBefore"), (0, u "(I)Ljava/time/Duration;")] 19

def k2m0 : Method := { name := "<init>", desc := "()V", sig := { parameters := [], returnType := none }, accessFlags := 2, code := none }
def k2c1 : Code := { maxStack := 5, maxLocals := 1, code := prog_22_method_2_code, exceptionTable := #[], attributes := #[] }
def k2m1 : Method := { name := "delayBefore", desc := "(I)Ljava/time/Duration;", sig := { parameters := [.int], returnType := some (.object "java/time/Duration") }, accessFlags := 8, code := some k2c1 }
/-- com/example/services_on_tap/servicesontap/RetryBackoff -/
def k2 : Class := { plain "com/example/services_on_tap/servicesontap/RetryBackoff" (some 0) with
  accessFlags := 32
  interfaces := #[]
  cf := some (fileOf pool2 7 #[] #[{ accessFlags := 2, nameIndex := 5, descriptorIndex := 6, attributes := #[] }, { accessFlags := 8, nameIndex := 39, descriptorIndex := 40, attributes := #[] }] 32 2 #[] #[{ accessFlags := 26, nameIndex := 20, descriptorIndex := 21, attributes := #[] }, { accessFlags := 24, nameIndex := 33, descriptorIndex := 34, attributes := #[] }])
  fields := #[{ name := "FIRST_DELAY", type := (.object "java/time/Duration"), accessFlags := 26, slot := 0, constantValue := 0 }, { name := "LAST_RETRY", type := .int, accessFlags := 24, slot := 1, constantValue := 0 }]
  methods := #[k2m0, k2m1]
  instanceTypes := #[]
  staticTypes := #[(.object "java/time/Duration"), .int]
  resolved := Array.replicate 60 none
  statics := some 0 }

def pool3 : Array CpInfo := pool [(1, .class_ 2), (0, u "java/time/temporal/TemporalAmount"), (0, .class_ 4), (0, u "java/lang/Object")] 11

/-- java/time/temporal/TemporalAmount -/
def k3 : Class := { plain "java/time/temporal/TemporalAmount" (some 0) with
  accessFlags := 1537
  interfaces := #[]
  cf := some (fileOf pool3 1 #[] #[] 1537 3 #[] #[])
  fields := #[]
  methods := #[]
  instanceTypes := #[]
  staticTypes := #[]
  resolved := Array.replicate 16 none
  statics := none }

def pool4 : Array CpInfo := pool [(1, .class_ 2), (0, u "java/lang/Comparable"), (0, .class_ 4), (0, u "java/lang/Object")] 7

/-- java/lang/Comparable -/
def k4 : Class := { plain "java/lang/Comparable" (some 0) with
  accessFlags := 1537
  interfaces := #[]
  cf := some (fileOf pool4 1 #[] #[] 1537 3 #[] #[])
  fields := #[]
  methods := #[]
  instanceTypes := #[]
  staticTypes := #[]
  resolved := Array.replicate 12 none
  statics := none }

def pool5 : Array CpInfo := pool [(1, .class_ 2), (0, u "java/io/Serializable"), (0, .class_ 4), (0, u "java/lang/Object")] 2

/-- java/io/Serializable -/
def k5 : Class := { plain "java/io/Serializable" (some 0) with
  accessFlags := 1537
  interfaces := #[]
  cf := some (fileOf pool5 1 #[] #[] 1537 3 #[] #[])
  fields := #[]
  methods := #[]
  instanceTypes := #[]
  staticTypes := #[]
  resolved := Array.replicate 7 none
  statics := none }

def pool6 : Array CpInfo := pool [(5, .class_ 7), (1, u "java/lang/Math"), (2, .methodref 11 12), (0, .class_ 13), (0, .nameAndType 14 15), (0, u "java/time/Duration"), (0, u "create"), (0, u "(JI)Ljava/time/Duration;"), (0, .long 1000000000), (1, .methodref 5 19), (0, .nameAndType 20 21), (0, u "floorDiv"), (0, u "(JJ)J"), (0, .methodref 5 23), (0, .nameAndType 24 21), (0, u "addExact"), (0, .methodref 5 26), (0, .nameAndType 27 21), (0, u "floorMod"), (6, u "ZERO"), (0, u "Ljava/time/Duration;"), (13, .class_ 51), (1, u "java/time/temporal/TemporalAmount"), (27, .class_ 81), (1, u "java/time/Duration$Lazy"), (35, u "seconds"), (21, u "<init>"), (17, .nameAndType 139 158), (0, u "()V"), (17, .methodref 11 177), (0, .nameAndType 178 179), (0, u "ofSeconds"), (0, u "(JJ)Ljava/time/Duration;"), (19, u "(J)Ljava/time/Duration;"), (15, .methodref 11 216), (0, .nameAndType 139 217), (0, u "(JI)V"), (0, .methodref 219 157), (0, .class_ 220), (0, u "java/lang/Object"), (0, .fieldref 11 222), (0, .nameAndType 117 223), (0, u "J"), (0, .fieldref 11 225), (0, .nameAndType 226 227), (0, u "nanos"), (0, u "I"), (11, .class_ 241), (1, u "java/time/Duration$DurationUnits"), (8, u "getSeconds"), (0, u "()J"), (2, u "getNano"), (0, u "()I"), (13, .class_ 271), (1, u "java/time/Duration$1"), (21, u "multipliedBy"), (15, .methodref 11 310), (0, .nameAndType 311 312), (0, u "toBigDecimalSeconds"), (0, u "()Ljava/math/BigDecimal;"), (0, .methodref 314 315), (0, .class_ 316), (0, .nameAndType 317 318), (0, u "java/math/BigDecimal"), (0, u "valueOf"), (0, u "(J)Ljava/math/BigDecimal;"), (0, .methodref 314 320), (0, .nameAndType 321 322), (0, u "multiply"), (0, u "(Ljava/math/BigDecimal;)Ljava/math/BigDecimal;"), (0, .methodref 11 324), (0, .nameAndType 14 325), (0, u "(Ljava/math/BigDecimal;)Ljava/time/Duration;"), (21, .methodref 314 348), (0, .nameAndType 317 349), (0, u "(JI)Ljava/math/BigDecimal;"), (0, .methodref 314 351), (0, .nameAndType 352 322), (0, u "add"), (0, .methodref 314 354), (0, .nameAndType 355 356), (0, u "movePointRight"), (0, u "(I)Ljava/math/BigDecimal;"), (0, .methodref 314 358), (0, .nameAndType 359 360), (0, u "toBigIntegerExact"), (0, u "()Ljava/math/BigInteger;"), (0, .fieldref 11 362), (0, .nameAndType 363 364), (0, u "BI_NANOS_PER_SECOND"), (0, u "Ljava/math/BigInteger;"), (0, .methodref 366 367), (0, .class_ 368), (0, .nameAndType 369 370), (0, u "java/math/BigInteger"), (0, u "divideAndRemainder"), (0, u "(Ljava/math/BigInteger;)[Ljava/math/BigInteger;"), (0, .methodref 366 372), (0, .nameAndType 373 255), (0, u "bitLength"), (2, .methodref 366 377), (0, .nameAndType 378 251), (0, u "longValue"), (0, .methodref 366 380), (0, .nameAndType 381 255), (0, u "intValue"), (103, .class_ 486), (0, u "java/lang/Comparable"), (0, .class_ 488), (0, u "java/io/Serializable"), (0, u "serialVersionUID")] 166

def k6c0 : Code := { maxStack := 6, maxLocals := 7, code := jdk_2316_method_5_code, exceptionTable := #[], attributes := #[] }
def k6m0 : Method := { name := "ofSeconds", desc := "(JJ)Ljava/time/Duration;", sig := { parameters := [.long, .long], returnType := some (.object "java/time/Duration") }, accessFlags := 9, code := some k6c0 }
def k6c1 : Code := { maxStack := 5, maxLocals := 3, code := jdk_2316_method_16_code, exceptionTable := #[], attributes := #[] }
def k6m1 : Method := { name := "create", desc := "(JI)Ljava/time/Duration;", sig := { parameters := [.long, .int], returnType := some (.object "java/time/Duration") }, accessFlags := 10, code := some k6c1 }
def k6c2 : Code := { maxStack := 3, maxLocals := 4, code := jdk_2316_method_17_code, exceptionTable := #[], attributes := #[] }
def k6m2 : Method := { name := "<init>", desc := "(JI)V", sig := { parameters := [.long, .int], returnType := none }, accessFlags := 2, code := some k6c2 }
def k6c3 : Code := { maxStack := 2, maxLocals := 1, code := jdk_2316_method_23_code, exceptionTable := #[], attributes := #[] }
def k6m3 : Method := { name := "getSeconds", desc := "()J", sig := { parameters := [], returnType := some .long }, accessFlags := 1, code := some k6c3 }
def k6c4 : Code := { maxStack := 1, maxLocals := 1, code := jdk_2316_method_24_code, exceptionTable := #[], attributes := #[] }
def k6m4 : Method := { name := "getNano", desc := "()I", sig := { parameters := [], returnType := some .int }, accessFlags := 1, code := some k6c4 }
def k6c5 : Code := { maxStack := 4, maxLocals := 3, code := jdk_2316_method_44_code, exceptionTable := #[], attributes := #[] }
def k6m5 : Method := { name := "multipliedBy", desc := "(J)Ljava/time/Duration;", sig := { parameters := [.long], returnType := some (.object "java/time/Duration") }, accessFlags := 1, code := some k6c5 }
def k6c6 : Code := { maxStack := 4, maxLocals := 1, code := jdk_2316_method_47_code, exceptionTable := #[], attributes := #[] }
def k6m6 : Method := { name := "toBigDecimalSeconds", desc := "()Ljava/math/BigDecimal;", sig := { parameters := [], returnType := some (.object "java/math/BigDecimal") }, accessFlags := 2, code := some k6c6 }
def k6c7 : Code := { maxStack := 4, maxLocals := 3, code := jdk_2316_method_48_code, exceptionTable := #[], attributes := #[] }
def k6m7 : Method := { name := "create", desc := "(Ljava/math/BigDecimal;)Ljava/time/Duration;", sig := { parameters := [(.object "java/math/BigDecimal")], returnType := some (.object "java/time/Duration") }, accessFlags := 10, code := some k6c7 }
/-- java/time/Duration -/
def k6 : Class := { plain "java/time/Duration" (some 0) with
  accessFlags := 49
  interfaces := #[3, 4, 5]
  cf := some (fileOf pool6 11 #[.nestMembers #[269, 239, 79]] #[{ accessFlags := 9, nameIndex := 178, descriptorIndex := 179, attributes := #[] }, { accessFlags := 10, nameIndex := 14, descriptorIndex := 15, attributes := #[] }, { accessFlags := 2, nameIndex := 139, descriptorIndex := 217, attributes := #[] }, { accessFlags := 1, nameIndex := 250, descriptorIndex := 251, attributes := #[] }, { accessFlags := 1, nameIndex := 254, descriptorIndex := 255, attributes := #[] }, { accessFlags := 1, nameIndex := 293, descriptorIndex := 199, attributes := #[] }, { accessFlags := 2, nameIndex := 311, descriptorIndex := 312, attributes := #[] }, { accessFlags := 10, nameIndex := 14, descriptorIndex := 325, attributes := #[] }] 49 219 #[49, 485, 487] #[{ accessFlags := 25, nameIndex := 34, descriptorIndex := 35, attributes := #[] }, { accessFlags := 26, nameIndex := 489, descriptorIndex := 223, attributes := #[] }, { accessFlags := 26, nameIndex := 363, descriptorIndex := 364, attributes := #[] }, { accessFlags := 18, nameIndex := 117, descriptorIndex := 223, attributes := #[] }, { accessFlags := 18, nameIndex := 226, descriptorIndex := 227, attributes := #[] }])
  fields := #[{ name := "ZERO", type := (.object "java/time/Duration"), accessFlags := 25, slot := 0, constantValue := 0 }, { name := "serialVersionUID", type := .long, accessFlags := 26, slot := 1, constantValue := 0 }, { name := "BI_NANOS_PER_SECOND", type := (.object "java/math/BigInteger"), accessFlags := 26, slot := 2, constantValue := 0 }, { name := "seconds", type := .long, accessFlags := 18, slot := 0, constantValue := 0 }, { name := "nanos", type := .int, accessFlags := 18, slot := 1, constantValue := 0 }]
  methods := #[k6m0, k6m1, k6m2, k6m3, k6m4, k6m5, k6m6, k6m7]
  instanceTypes := #[.long, .int]
  staticTypes := #[(.object "java/time/Duration"), .long, (.object "java/math/BigInteger")]
  resolved := Array.replicate 656 none
  statics := some 1 }

def pool7 : Array CpInfo := pool [(1, .methodref 2 3), (0, .class_ 4), (0, .nameAndType 5 6), (0, u "java/lang/Object"), (0, u "<init>"), (0, u "()V"), (1, .class_ 10), (1, u "java/lang/Number"), (2, .class_ 14), (0, u "java/io/Serializable"), (0, u "serialVersionUID"), (0, u "J")] 20

def k7c0 : Code := { maxStack := 1, maxLocals := 1, code := jdk_18_method_1_code, exceptionTable := #[], attributes := #[] }
def k7m0 : Method := { name := "<init>", desc := "()V", sig := { parameters := [], returnType := none }, accessFlags := 1, code := some k7c0 }
/-- java/lang/Number -/
def k7 : Class := { plain "java/lang/Number" (some 0) with
  accessFlags := 1057
  interfaces := #[5]
  cf := some (fileOf pool7 8 #[] #[{ accessFlags := 1, nameIndex := 5, descriptorIndex := 6, attributes := #[] }] 1057 2 #[13] #[{ accessFlags := 26, nameIndex := 15, descriptorIndex := 16, attributes := #[] }])
  fields := #[{ name := "serialVersionUID", type := .long, accessFlags := 26, slot := 0, constantValue := 0 }]
  methods := #[k7m0]
  instanceTypes := #[]
  staticTypes := #[.long]
  resolved := Array.replicate 37 none
  statics := none }

def pool8 : Array CpInfo := pool [(3, .class_ 4), (0, u "java/math/BigDecimal"), (4, .class_ 10), (0, u "java/math/BigInteger"), (0, .methodref 12 13), (0, .class_ 14), (0, .nameAndType 15 16), (0, u "java/lang/Number"), (0, u "<init>"), (0, u "()V"), (0, .fieldref 3 18), (0, .nameAndType 19 20), (0, u "scale"), (0, u "I"), (0, .fieldref 3 22), (0, .nameAndType 23 20), (0, u "precision"), (0, .fieldref 3 25), (0, .nameAndType 26 27), (0, u "intCompact"), (0, u "J"), (0, .fieldref 3 29), (0, .nameAndType 30 31), (0, u "intVal"), (0, u "Ljava/math/BigInteger;"), (63, .fieldref 3 96), (0, .nameAndType 97 98), (0, u "LONG_TEN_POWERS_TABLE"), (0, u "[J"), (16, u "(J)I"), (9, .long 9223372036854775808), (61, u "ZERO"), (2, u "INFLATED_BIGINT"), (2, .methodref 9 194), (0, .nameAndType 195 196), (0, u "valueOf"), (0, u "(J)Ljava/math/BigInteger;"), (4, .methodref 9 202), (0, .nameAndType 203 196), (0, u "multiply"), (2, u "TWO"), (31, u "(J)Ljava/math/BigDecimal;"), (0, .methodref 3 240), (0, .nameAndType 241 242), (0, u "zeroValueOf"), (0, u "(I)Ljava/math/BigDecimal;"), (0, .methodref 3 244), (0, .nameAndType 15 245), (0, u "(Ljava/math/BigInteger;JII)V"), (0, .fieldref 3 247), (0, .nameAndType 248 249), (0, u "ZERO_THROUGH_TEN"), (0, u "[Ljava/math/BigDecimal;"), (0, .fieldref 3 251), (0, .nameAndType 252 249), (0, u "ZERO_SCALED_BY"), (4, .methodref 3 258), (0, .nameAndType 259 260), (0, u "add"), (0, u "(JIJI)Ljava/math/BigDecimal;"), (8, u "(Ljava/math/BigDecimal;)Ljava/math/BigDecimal;"), (6, .class_ 278), (1, u "java/lang/Math"), (14, u "setScale"), (8, .methodref 3 303), (0, .nameAndType 304 305), (0, u "inflated"), (0, u "()Ljava/math/BigInteger;"), (7, u "$assertionsDisabled"), (0, u "Z"), (7, u "(JJ)J"), (2, .methodref 3 326), (0, .nameAndType 327 115), (0, u "checkScale"), (0, .methodref 3 329), (0, .nameAndType 195 330), (0, u "(JI)Ljava/math/BigDecimal;"), (11, .methodref 3 343), (0, .nameAndType 203 344), (0, u "(JJI)Ljava/math/BigDecimal;"), (74, .methodref 3 420), (0, .nameAndType 293 421), (0, u "(II)Ljava/math/BigDecimal;"), (18, .methodref 276 441), (0, .nameAndType 442 443), (0, u "abs"), (0, u "(J)J"), (34, u "ONE_TENTH"), (0, u "Ljava/math/BigDecimal;"), (5, u "TEN"), (14, .class_ 502), (1, u "java/math/BigDecimal$1"), (15, u "ONE_HALF"), (16, u "ONE"), (63, .methodref 3 600), (0, .nameAndType 601 602), (0, u "longMultiplyPowerTen"), (0, u "(JI)J"), (32, u "(JJ)I"), (7, u "stringCache"), (0, u "Ljava/lang/String;"), (52, .class_ 699), (1, u "java/math/BigDecimal$LongOverflow"), (8, u "FLOAT_10_POW"), (0, u "[F"), (39, u "DOUBLE_10_POW"), (0, u "[D"), (19, .class_ 772), (1, u "java/math/BigDecimal$StringBuilderHelper"), (35, u "BIG_TEN_POWERS_TABLE_MAX"), (2, u "BIG_TEN_POWERS_TABLE"), (0, u "[Ljava/math/BigInteger;"), (12, .fieldref 3 826), (0, .nameAndType 827 98), (0, u "THRESHOLDS_TABLE"), (23, .class_ 853), (1, u "java/math/BigDecimal$UnsafeHolder"), (140, .methodref 3 995), (0, .nameAndType 327 635), (0, .methodref 3 997), (0, .nameAndType 259 322), (2, .methodref 3 1001), (0, .nameAndType 259 344), (53, .methodref 3 1056), (0, .nameAndType 203 322), (11, u "LONGLONG_TEN_POWERS_TABLE"), (0, u "[[J"), (112, u "BIG_TEN_POWERS_TABLE_INITLEN"), (113, .class_ 1297), (0, u "java/lang/Comparable"), (0, u "L"), (0, u "D"), (1, u "P_F"), (1, u "Q_MIN_F"), (1, u "Q_MAX_F"), (1, u "P_D"), (1, u "Q_MIN_D"), (1, u "Q_MAX_D"), (1, u "INFLATED"), (0, u "MAX_COMPACT_DIGITS"), (1, u "serialVersionUID"), (2, u "HALF_LONG_MAX_VALUE"), (0, u "HALF_LONG_MIN_VALUE"), (0, u "ROUND_UP"), (6, u "ROUND_DOWN"), (1, u "ROUND_CEILING"), (1, u "ROUND_FLOOR"), (1, u "ROUND_HALF_UP"), (1, u "ROUND_HALF_DOWN"), (1, u "ROUND_HALF_EVEN"), (1, u "ROUND_UNNECESSARY"), (1, u "DIV_NUM_BASE"), (116, u "movePointRight"), (22, u "toBigIntegerExact")] 154

def k8c0 : Code := { maxStack := 3, maxLocals := 6, code := jdk_17_method_1_code, exceptionTable := #[], attributes := #[] }
def k8m0 : Method := { name := "<init>", desc := "(Ljava/math/BigInteger;JII)V", sig := { parameters := [(.object "java/math/BigInteger"), .long, .int, .int], returnType := none }, accessFlags := 0, code := some k8c0 }
def k8c1 : Code := { maxStack := 7, maxLocals := 3, code := jdk_17_method_20_code, exceptionTable := #[], attributes := #[] }
def k8m1 : Method := { name := "valueOf", desc := "(JI)Ljava/math/BigDecimal;", sig := { parameters := [.long, .int], returnType := some (.object "java/math/BigDecimal") }, accessFlags := 9, code := some k8c1 }
def k8c2 : Code := { maxStack := 7, maxLocals := 2, code := jdk_17_method_21_code, exceptionTable := #[], attributes := #[] }
def k8m2 : Method := { name := "valueOf", desc := "(J)Ljava/math/BigDecimal;", sig := { parameters := [.long], returnType := some (.object "java/math/BigDecimal") }, accessFlags := 9, code := some k8c2 }
def k8c3 : Code := { maxStack := 7, maxLocals := 1, code := jdk_17_method_24_code, exceptionTable := #[], attributes := #[] }
def k8m3 : Method := { name := "zeroValueOf", desc := "(I)Ljava/math/BigDecimal;", sig := { parameters := [.int], returnType := some (.object "java/math/BigDecimal") }, accessFlags := 8, code := some k8c3 }
def k8c4 : Code := { maxStack := 6, maxLocals := 2, code := jdk_17_method_26_code, exceptionTable := #[], attributes := #[] }
def k8m4 : Method := { name := "add", desc := "(Ljava/math/BigDecimal;)Ljava/math/BigDecimal;", sig := { parameters := [(.object "java/math/BigDecimal")], returnType := some (.object "java/math/BigDecimal") }, accessFlags := 1, code := some k8c4 }
def k8c5 : Code := { maxStack := 5, maxLocals := 3, code := jdk_17_method_31_code, exceptionTable := #[], attributes := #[] }
def k8m5 : Method := { name := "multiply", desc := "(Ljava/math/BigDecimal;)Ljava/math/BigDecimal;", sig := { parameters := [(.object "java/math/BigDecimal")], returnType := some (.object "java/math/BigDecimal") }, accessFlags := 1, code := some k8c5 }
def k8c6 : Code := { maxStack := 8, maxLocals := 8, code := jdk_17_method_64_code, exceptionTable := #[], attributes := #[] }
def k8m6 : Method := { name := "setScale", desc := "(II)Ljava/math/BigDecimal;", sig := { parameters := [.int, .int], returnType := some (.object "java/math/BigDecimal") }, accessFlags := 1, code := some k8c6 }
def k8c7 : Code := { maxStack := 7, maxLocals := 4, code := jdk_17_method_67_code, exceptionTable := #[], attributes := #[] }
def k8m7 : Method := { name := "movePointRight", desc := "(I)Ljava/math/BigDecimal;", sig := { parameters := [.int], returnType := some (.object "java/math/BigDecimal") }, accessFlags := 1, code := some k8c7 }
def k8c8 : Code := { maxStack := 3, maxLocals := 1, code := jdk_17_method_81_code, exceptionTable := #[], attributes := #[] }
def k8m8 : Method := { name := "toBigIntegerExact", desc := "()Ljava/math/BigInteger;", sig := { parameters := [], returnType := some (.object "java/math/BigInteger") }, accessFlags := 1, code := some k8c8 }
def k8c9 : Code := { maxStack := 4, maxLocals := 7, code := jdk_17_method_97_code, exceptionTable := #[], attributes := #[] }
def k8m9 : Method := { name := "longMultiplyPowerTen", desc := "(JI)J", sig := { parameters := [.long, .int], returnType := some .long }, accessFlags := 10, code := some k8c9 }
def k8c10 : Code := { maxStack := 2, maxLocals := 1, code := jdk_17_method_99_code, exceptionTable := #[], attributes := #[] }
def k8m10 : Method := { name := "inflated", desc := "()Ljava/math/BigInteger;", sig := { parameters := [], returnType := some (.object "java/math/BigInteger") }, accessFlags := 2, code := some k8c10 }
def k8c11 : Code := { maxStack := 4, maxLocals := 5, code := jdk_17_method_106_code, exceptionTable := #[], attributes := #[] }
def k8m11 : Method := { name := "checkScale", desc := "(J)I", sig := { parameters := [.long], returnType := some .int }, accessFlags := 2, code := some k8c11 }
def k8c12 : Code := { maxStack := 4, maxLocals := 5, code := jdk_17_method_113_code, exceptionTable := #[], attributes := #[] }
def k8m12 : Method := { name := "checkScale", desc := "(JJ)I", sig := { parameters := [.long, .long], returnType := some .int }, accessFlags := 10, code := some k8c12 }
def k8c13 : Code := { maxStack := 6, maxLocals := 6, code := jdk_17_method_132_code, exceptionTable := #[], attributes := #[] }
def k8m13 : Method := { name := "add", desc := "(JJ)J", sig := { parameters := [.long, .long], returnType := some .long }, accessFlags := 10, code := some k8c13 }
def k8c14 : Code := { maxStack := 5, maxLocals := 7, code := jdk_17_method_133_code, exceptionTable := #[], attributes := #[] }
def k8m14 : Method := { name := "add", desc := "(JJI)Ljava/math/BigDecimal;", sig := { parameters := [.long, .long, .int], returnType := some (.object "java/math/BigDecimal") }, accessFlags := 10, code := some k8c14 }
def k8c15 : Code := { maxStack := 7, maxLocals := 12, code := jdk_17_method_134_code, exceptionTable := #[], attributes := #[] }
def k8m15 : Method := { name := "add", desc := "(JIJI)Ljava/math/BigDecimal;", sig := { parameters := [.long, .int, .long, .int], returnType := some (.object "java/math/BigDecimal") }, accessFlags := 10, code := some k8c15 }
def k8c16 : Code := { maxStack := 4, maxLocals := 10, code := jdk_17_method_156_code, exceptionTable := #[], attributes := #[] }
def k8m16 : Method := { name := "multiply", desc := "(JJ)J", sig := { parameters := [.long, .long], returnType := some .long }, accessFlags := 10, code := some k8c16 }
def k8c17 : Code := { maxStack := 7, maxLocals := 7, code := jdk_17_method_157_code, exceptionTable := #[], attributes := #[] }
def k8m17 : Method := { name := "multiply", desc := "(JJI)Ljava/math/BigDecimal;", sig := { parameters := [.long, .long, .int], returnType := some (.object "java/math/BigDecimal") }, accessFlags := 10, code := some k8c17 }
/-- java/math/BigDecimal -/
def k8 : Class := { plain "java/math/BigDecimal" (some 7) with
  accessFlags := 33
  interfaces := #[4]
  cf := some (fileOf pool8 3 #[.nestMembers #[500, 851, 770, 697]] #[{ accessFlags := 0, nameIndex := 15, descriptorIndex := 245, attributes := #[] }, { accessFlags := 9, nameIndex := 195, descriptorIndex := 330, attributes := #[] }, { accessFlags := 9, nameIndex := 195, descriptorIndex := 238, attributes := #[] }, { accessFlags := 8, nameIndex := 241, descriptorIndex := 242, attributes := #[] }, { accessFlags := 1, nameIndex := 259, descriptorIndex := 269, attributes := #[] }, { accessFlags := 1, nameIndex := 203, descriptorIndex := 269, attributes := #[] }, { accessFlags := 1, nameIndex := 293, descriptorIndex := 421, attributes := #[] }, { accessFlags := 1, nameIndex := 1459, descriptorIndex := 242, attributes := #[] }, { accessFlags := 1, nameIndex := 1482, descriptorIndex := 305, attributes := #[] }, { accessFlags := 10, nameIndex := 601, descriptorIndex := 602, attributes := #[] }, { accessFlags := 2, nameIndex := 304, descriptorIndex := 305, attributes := #[] }, { accessFlags := 2, nameIndex := 327, descriptorIndex := 115, attributes := #[] }, { accessFlags := 10, nameIndex := 327, descriptorIndex := 635, attributes := #[] }, { accessFlags := 10, nameIndex := 259, descriptorIndex := 322, attributes := #[] }, { accessFlags := 10, nameIndex := 259, descriptorIndex := 344, attributes := #[] }, { accessFlags := 10, nameIndex := 259, descriptorIndex := 260, attributes := #[] }, { accessFlags := 10, nameIndex := 203, descriptorIndex := 322, attributes := #[] }, { accessFlags := 10, nameIndex := 203, descriptorIndex := 344, attributes := #[] }] 33 12 #[1296] #[{ accessFlags := 26, nameIndex := 1298, descriptorIndex := 1299, attributes := #[] }, { accessFlags := 26, nameIndex := 1301, descriptorIndex := 20, attributes := #[] }, { accessFlags := 26, nameIndex := 1303, descriptorIndex := 20, attributes := #[] }, { accessFlags := 26, nameIndex := 1305, descriptorIndex := 20, attributes := #[] }, { accessFlags := 26, nameIndex := 1307, descriptorIndex := 20, attributes := #[] }, { accessFlags := 26, nameIndex := 1309, descriptorIndex := 20, attributes := #[] }, { accessFlags := 26, nameIndex := 1311, descriptorIndex := 20, attributes := #[] }, { accessFlags := 18, nameIndex := 30, descriptorIndex := 31, attributes := #[] }, { accessFlags := 18, nameIndex := 19, descriptorIndex := 20, attributes := #[] }, { accessFlags := 130, nameIndex := 23, descriptorIndex := 20, attributes := #[] }, { accessFlags := 130, nameIndex := 643, descriptorIndex := 644, attributes := #[] }, { accessFlags := 24, nameIndex := 1313, descriptorIndex := 27, attributes := #[] }, { accessFlags := 26, nameIndex := 190, descriptorIndex := 31, attributes := #[] }, { accessFlags := 146, nameIndex := 26, descriptorIndex := 27, attributes := #[] }, { accessFlags := 26, nameIndex := 1314, descriptorIndex := 20, attributes := #[] }, { accessFlags := 26, nameIndex := 1316, descriptorIndex := 27, attributes := #[] }, { accessFlags := 26, nameIndex := 248, descriptorIndex := 249, attributes := #[] }, { accessFlags := 26, nameIndex := 252, descriptorIndex := 249, attributes := #[] }, { accessFlags := 26, nameIndex := 1319, descriptorIndex := 27, attributes := #[] }, { accessFlags := 26, nameIndex := 1320, descriptorIndex := 27, attributes := #[] }, { accessFlags := 25, nameIndex := 187, descriptorIndex := 479, attributes := #[] }, { accessFlags := 25, nameIndex := 535, descriptorIndex := 479, attributes := #[] }, { accessFlags := 25, nameIndex := 206, descriptorIndex := 479, attributes := #[] }, { accessFlags := 25, nameIndex := 485, descriptorIndex := 479, attributes := #[] }, { accessFlags := 26, nameIndex := 478, descriptorIndex := 479, attributes := #[] }, { accessFlags := 26, nameIndex := 518, descriptorIndex := 479, attributes := #[] }, { accessFlags := 25, nameIndex := 1321, descriptorIndex := 20, attributes := #[] }, { accessFlags := 25, nameIndex := 1328, descriptorIndex := 20, attributes := #[] }, { accessFlags := 25, nameIndex := 1330, descriptorIndex := 20, attributes := #[] }, { accessFlags := 25, nameIndex := 1332, descriptorIndex := 20, attributes := #[] }, { accessFlags := 25, nameIndex := 1334, descriptorIndex := 20, attributes := #[] }, { accessFlags := 25, nameIndex := 1336, descriptorIndex := 20, attributes := #[] }, { accessFlags := 25, nameIndex := 1338, descriptorIndex := 20, attributes := #[] }, { accessFlags := 25, nameIndex := 1340, descriptorIndex := 20, attributes := #[] }, { accessFlags := 26, nameIndex := 749, descriptorIndex := 750, attributes := #[] }, { accessFlags := 26, nameIndex := 708, descriptorIndex := 709, attributes := #[] }, { accessFlags := 26, nameIndex := 97, descriptorIndex := 98, attributes := #[] }, { accessFlags := 74, nameIndex := 811, descriptorIndex := 812, attributes := #[] }, { accessFlags := 26, nameIndex := 1182, descriptorIndex := 20, attributes := #[] }, { accessFlags := 26, nameIndex := 808, descriptorIndex := 20, attributes := #[] }, { accessFlags := 26, nameIndex := 827, descriptorIndex := 98, attributes := #[] }, { accessFlags := 26, nameIndex := 1342, descriptorIndex := 27, attributes := #[] }, { accessFlags := 26, nameIndex := 1068, descriptorIndex := 1069, attributes := #[] }, { accessFlags := 4120, nameIndex := 313, descriptorIndex := 314, attributes := #[] }])
  fields := #[{ name := "L", type := .double, accessFlags := 26, slot := 0, constantValue := 0 }, { name := "P_F", type := .int, accessFlags := 26, slot := 1, constantValue := 0 }, { name := "Q_MIN_F", type := .int, accessFlags := 26, slot := 2, constantValue := 0 }, { name := "Q_MAX_F", type := .int, accessFlags := 26, slot := 3, constantValue := 0 }, { name := "P_D", type := .int, accessFlags := 26, slot := 4, constantValue := 0 }, { name := "Q_MIN_D", type := .int, accessFlags := 26, slot := 5, constantValue := 0 }, { name := "Q_MAX_D", type := .int, accessFlags := 26, slot := 6, constantValue := 0 }, { name := "intVal", type := (.object "java/math/BigInteger"), accessFlags := 18, slot := 0, constantValue := 0 }, { name := "scale", type := .int, accessFlags := 18, slot := 1, constantValue := 0 }, { name := "precision", type := .int, accessFlags := 130, slot := 2, constantValue := 0 }, { name := "stringCache", type := (.object "java/lang/String"), accessFlags := 130, slot := 3, constantValue := 0 }, { name := "INFLATED", type := .long, accessFlags := 24, slot := 7, constantValue := 0 }, { name := "INFLATED_BIGINT", type := (.object "java/math/BigInteger"), accessFlags := 26, slot := 8, constantValue := 0 }, { name := "intCompact", type := .long, accessFlags := 146, slot := 4, constantValue := 0 }, { name := "MAX_COMPACT_DIGITS", type := .int, accessFlags := 26, slot := 9, constantValue := 0 }, { name := "serialVersionUID", type := .long, accessFlags := 26, slot := 10, constantValue := 0 }, { name := "ZERO_THROUGH_TEN", type := (.array (.object "java/math/BigDecimal")), accessFlags := 26, slot := 11, constantValue := 0 }, { name := "ZERO_SCALED_BY", type := (.array (.object "java/math/BigDecimal")), accessFlags := 26, slot := 12, constantValue := 0 }, { name := "HALF_LONG_MAX_VALUE", type := .long, accessFlags := 26, slot := 13, constantValue := 0 }, { name := "HALF_LONG_MIN_VALUE", type := .long, accessFlags := 26, slot := 14, constantValue := 0 }, { name := "ZERO", type := (.object "java/math/BigDecimal"), accessFlags := 25, slot := 15, constantValue := 0 }, { name := "ONE", type := (.object "java/math/BigDecimal"), accessFlags := 25, slot := 16, constantValue := 0 }, { name := "TWO", type := (.object "java/math/BigDecimal"), accessFlags := 25, slot := 17, constantValue := 0 }, { name := "TEN", type := (.object "java/math/BigDecimal"), accessFlags := 25, slot := 18, constantValue := 0 }, { name := "ONE_TENTH", type := (.object "java/math/BigDecimal"), accessFlags := 26, slot := 19, constantValue := 0 }, { name := "ONE_HALF", type := (.object "java/math/BigDecimal"), accessFlags := 26, slot := 20, constantValue := 0 }, { name := "ROUND_UP", type := .int, accessFlags := 25, slot := 21, constantValue := 0 }, { name := "ROUND_DOWN", type := .int, accessFlags := 25, slot := 22, constantValue := 0 }, { name := "ROUND_CEILING", type := .int, accessFlags := 25, slot := 23, constantValue := 0 }, { name := "ROUND_FLOOR", type := .int, accessFlags := 25, slot := 24, constantValue := 0 }, { name := "ROUND_HALF_UP", type := .int, accessFlags := 25, slot := 25, constantValue := 0 }, { name := "ROUND_HALF_DOWN", type := .int, accessFlags := 25, slot := 26, constantValue := 0 }, { name := "ROUND_HALF_EVEN", type := .int, accessFlags := 25, slot := 27, constantValue := 0 }, { name := "ROUND_UNNECESSARY", type := .int, accessFlags := 25, slot := 28, constantValue := 0 }, { name := "DOUBLE_10_POW", type := (.array .double), accessFlags := 26, slot := 29, constantValue := 0 }, { name := "FLOAT_10_POW", type := (.array .float), accessFlags := 26, slot := 30, constantValue := 0 }, { name := "LONG_TEN_POWERS_TABLE", type := (.array .long), accessFlags := 26, slot := 31, constantValue := 0 }, { name := "BIG_TEN_POWERS_TABLE", type := (.array (.object "java/math/BigInteger")), accessFlags := 74, slot := 32, constantValue := 0 }, { name := "BIG_TEN_POWERS_TABLE_INITLEN", type := .int, accessFlags := 26, slot := 33, constantValue := 0 }, { name := "BIG_TEN_POWERS_TABLE_MAX", type := .int, accessFlags := 26, slot := 34, constantValue := 0 }, { name := "THRESHOLDS_TABLE", type := (.array .long), accessFlags := 26, slot := 35, constantValue := 0 }, { name := "DIV_NUM_BASE", type := .long, accessFlags := 26, slot := 36, constantValue := 0 }, { name := "LONGLONG_TEN_POWERS_TABLE", type := (.array (.array .long)), accessFlags := 26, slot := 37, constantValue := 0 }, { name := "$assertionsDisabled", type := .boolean, accessFlags := 4120, slot := 38, constantValue := 0 }]
  methods := #[k8m0, k8m1, k8m2, k8m3, k8m4, k8m5, k8m6, k8m7, k8m8, k8m9, k8m10, k8m11, k8m12, k8m13, k8m14, k8m15, k8m16, k8m17]
  instanceTypes := #[(.object "java/math/BigInteger"), .int, .int, (.object "java/lang/String"), .long]
  staticTypes := #[.double, .int, .int, .int, .int, .int, .int, .long, (.object "java/math/BigInteger"), .int, .long, (.array (.object "java/math/BigDecimal")), (.array (.object "java/math/BigDecimal")), .long, .long, (.object "java/math/BigDecimal"), (.object "java/math/BigDecimal"), (.object "java/math/BigDecimal"), (.object "java/math/BigDecimal"), (.object "java/math/BigDecimal"), (.object "java/math/BigDecimal"), .int, .int, .int, .int, .int, .int, .int, .int, (.array .double), (.array .float), (.array .long), (.array (.object "java/math/BigInteger")), .int, .int, (.array .long), .long, (.array (.array .long)), .boolean]
  resolved := Array.replicate 1637 none
  statics := some 2 }

def pool9 : Array CpInfo := pool [(1, .class_ 2), (0, u "java/lang/Math"), (1, .class_ 6), (1, u "java/lang/Object"), (0, u "<init>"), (0, u "()V"), (89, .class_ 100), (1, u "java/lang/Math$RandomNumberGeneratorHolder"), (20, u "(JJ)J"), (2, u "abs"), (0, u "(J)J"), (19, u "floorDiv"), (2, u "floorMod"), (23, u "negativeZeroFloatBits"), (0, u "J"), (2, u "negativeZeroDoubleBits"), (24, u "min"), (43, u "$assertionsDisabled"), (0, u "Z"), (88, u "(II)I"), (2, u "twoToTheDoubleScaleDown"), (0, u "D"), (4, u "twoToTheDoubleScaleUp"), (9, u "E"), (3, u "PI"), (2, u "TAU"), (2, u "DEGREES_TO_RADIANS"), (0, u "RADIANS_TO_DEGREES"), (27, u "addExact")] 66

def k9m0 : Method := { name := "<init>", desc := "()V", sig := { parameters := [], returnType := none }, accessFlags := 2, code := none }
def k9c1 : Code := { maxStack := 6, maxLocals := 6, code := jdk_29_method_25_code, exceptionTable := #[], attributes := #[] }
def k9m1 : Method := { name := "addExact", desc := "(JJ)J", sig := { parameters := [.long, .long], returnType := some .long }, accessFlags := 9, code := some k9c1 }
def k9c2 : Code := { maxStack := 4, maxLocals := 6, code := jdk_29_method_49_code, exceptionTable := #[], attributes := #[] }
def k9m2 : Method := { name := "floorDiv", desc := "(JJ)J", sig := { parameters := [.long, .long], returnType := some .long }, accessFlags := 9, code := some k9c2 }
def k9c3 : Code := { maxStack := 4, maxLocals := 6, code := jdk_29_method_52_code, exceptionTable := #[], attributes := #[] }
def k9m3 : Method := { name := "floorMod", desc := "(JJ)J", sig := { parameters := [.long, .long], returnType := some .long }, accessFlags := 9, code := some k9c3 }
def k9c4 : Code := { maxStack := 4, maxLocals := 2, code := jdk_29_method_61_code, exceptionTable := #[], attributes := #[] }
def k9m4 : Method := { name := "abs", desc := "(J)J", sig := { parameters := [.long], returnType := some .long }, accessFlags := 9, code := some k9c4 }
def k9c5 : Code := { maxStack := 2, maxLocals := 2, code := jdk_29_method_69_code, exceptionTable := #[], attributes := #[] }
def k9m5 : Method := { name := "min", desc := "(II)I", sig := { parameters := [.int, .int], returnType := some .int }, accessFlags := 9, code := some k9c5 }
/-- java/lang/Math -/
def k9 : Class := { plain "java/lang/Math" (some 0) with
  accessFlags := 49
  interfaces := #[]
  cf := some (fileOf pool9 1 #[.nestMembers #[98]] #[{ accessFlags := 2, nameIndex := 7, descriptorIndex := 8, attributes := #[] }, { accessFlags := 9, nameIndex := 393, descriptorIndex := 121, attributes := #[] }, { accessFlags := 9, nameIndex := 145, descriptorIndex := 121, attributes := #[] }, { accessFlags := 9, nameIndex := 148, descriptorIndex := 121, attributes := #[] }, { accessFlags := 9, nameIndex := 124, descriptorIndex := 125, attributes := #[] }, { accessFlags := 9, nameIndex := 201, descriptorIndex := 335, attributes := #[] }] 49 4 #[] #[{ accessFlags := 25, nameIndex := 354, descriptorIndex := 339, attributes := #[] }, { accessFlags := 25, nameIndex := 358, descriptorIndex := 339, attributes := #[] }, { accessFlags := 25, nameIndex := 361, descriptorIndex := 339, attributes := #[] }, { accessFlags := 26, nameIndex := 364, descriptorIndex := 339, attributes := #[] }, { accessFlags := 26, nameIndex := 365, descriptorIndex := 339, attributes := #[] }, { accessFlags := 26, nameIndex := 172, descriptorIndex := 173, attributes := #[] }, { accessFlags := 26, nameIndex := 176, descriptorIndex := 173, attributes := #[] }, { accessFlags := 8, nameIndex := 344, descriptorIndex := 339, attributes := #[] }, { accessFlags := 8, nameIndex := 338, descriptorIndex := 339, attributes := #[] }, { accessFlags := 4120, nameIndex := 245, descriptorIndex := 246, attributes := #[] }])
  fields := #[{ name := "E", type := .double, accessFlags := 25, slot := 0, constantValue := 0 }, { name := "PI", type := .double, accessFlags := 25, slot := 1, constantValue := 0 }, { name := "TAU", type := .double, accessFlags := 25, slot := 2, constantValue := 0 }, { name := "DEGREES_TO_RADIANS", type := .double, accessFlags := 26, slot := 3, constantValue := 0 }, { name := "RADIANS_TO_DEGREES", type := .double, accessFlags := 26, slot := 4, constantValue := 0 }, { name := "negativeZeroFloatBits", type := .long, accessFlags := 26, slot := 5, constantValue := 0 }, { name := "negativeZeroDoubleBits", type := .long, accessFlags := 26, slot := 6, constantValue := 0 }, { name := "twoToTheDoubleScaleUp", type := .double, accessFlags := 8, slot := 7, constantValue := 0 }, { name := "twoToTheDoubleScaleDown", type := .double, accessFlags := 8, slot := 8, constantValue := 0 }, { name := "$assertionsDisabled", type := .boolean, accessFlags := 4120, slot := 9, constantValue := 0 }]
  methods := #[k9m0, k9m1, k9m2, k9m3, k9m4, k9m5]
  instanceTypes := #[]
  staticTypes := #[.double, .double, .double, .double, .double, .long, .long, .double, .double, .boolean]
  resolved := Array.replicate 460 none
  statics := none }

def pool10 : Array CpInfo := pool [(1, .class_ 2), (0, u "java/lang/Integer"), (0, .methodref 4 5), (0, .class_ 6), (0, .nameAndType 7 8), (0, u "java/lang/Number"), (0, u "<init>"), (0, u "()V"), (14, .class_ 25), (1, u "java/math/BigInteger"), (0, u "ZERO"), (0, u "Ljava/math/BigInteger;"), (0, .fieldref 23 29), (0, .nameAndType 30 31), (0, u "mag"), (0, u "[I"), (0, .fieldref 23 33), (0, .nameAndType 34 35), (0, u "signum"), (0, u "I"), (7, .integer 67108864), (30, u "()I"), (7, u "(I)I"), (12, u "bitsPerDigit"), (0, u "[J"), (9, u "digitsPerInt"), (12, u "intRadix"), (10, .long 4294967295), (9, .class_ 142), (1, u "java/util/Arrays"), (32, .methodref 23 176), (0, .nameAndType 7 177), (0, u "([II)V"), (2, u "SMALL_PRIME_PRODUCT"), (6, u "longValue"), (0, u "()J"), (30, u "(I)Ljava/math/BigInteger;"), (14, u "bitLength"), (2, u "valueOf"), (0, u "(J)Ljava/math/BigInteger;"), (21, u "ONE"), (6, u "TWO"), (40, u "intValue"), (2, u "$assertionsDisabled"), (0, u "Z"), (5, u "multiply"), (26, .long 16), (3, u "posConst"), (0, u "[Ljava/math/BigInteger;"), (4, u "negConst"), (0, .methodref 23 357), (0, .nameAndType 7 358), (0, u "(J)V"), (1, .nameAndType 7 361), (0, u "([I)V"), (71, .methodref 140 434), (0, .nameAndType 435 436), (0, u "copyOfRange"), (0, u "([III)[I"), (2, .long 9223372036854775808), (32, .class_ 474), (1, u "java/math/BigInteger$RecursiveOp"), (62, u "divideKnuth"), (3, .class_ 542), (0, u "java/math/MutableBigInteger"), (0, .methodref 541 5), (0, .methodref 541 360), (3, .methodref 541 549), (0, .nameAndType 550 219), (0, u "toBigInteger"), (0, .methodref 23 552), (0, .nameAndType 553 554), (0, u "divideAndRemainderKnuth"), (0, u "(Ljava/math/BigInteger;)[Ljava/math/BigInteger;"), (3, .methodref 541 559), (0, .nameAndType 537 560), (0, u "(Ljava/math/MutableBigInteger;Ljava/math/MutableBigInteger;)Ljava/math/MutableBigInteger;"), (20, u "NEGATIVE_ONE"), (20, .methodref 1 603), (0, .nameAndType 604 82), (0, u "numberOfLeadingZeros"), (0, .methodref 23 606), (0, .nameAndType 607 82), (0, u "bitLengthForInt"), (65, u "bnExpModThreshTable"), (62, .methodref 23 737), (0, .nameAndType 738 82), (0, u "getInt"), (7, u "lowestSetBitPlusTwo"), (0, .fieldref 23 748), (0, .nameAndType 749 35), (0, u "bitLengthPlusOne"), (2, u "bitCountPlusOne"), (6, u "LOG_TWO"), (0, u "D"), (2, u "logCache"), (0, u "[D"), (13, u "NUM_ZEROS"), (2, u "ZEROS"), (0, u "Ljava/lang/String;"), (9, u "longRadix"), (5, u "digitsPerLong"), (19, u "divideAndRemainder"), (2, u "powerCache"), (0, u "[[Ljava/math/BigInteger;"), (37, .methodref 23 861), (0, .nameAndType 862 74), (0, u "signInt"), (5, u "firstNonzeroIntNumPlusTwo"), (38, .class_ 909), (1, u "java/math/BigInteger$UnsafeHolder"), (141, u "TEN"), (106, u "serialPersistentFields"), (0, u "[Ljava/io/ObjectStreamField;"), (0, .class_ 1161), (0, u "java/lang/Comparable"), (0, u "LONG_MASK"), (0, u "J"), (1, u "MAX_MAG_LENGTH"), (0, u "PRIME_SEARCH_BIT_LENGTH_LIMIT"), (1, u "KARATSUBA_THRESHOLD"), (1, u "TOOM_COOK_THRESHOLD"), (1, u "KARATSUBA_SQUARE_THRESHOLD"), (1, u "TOOM_COOK_SQUARE_THRESHOLD"), (1, u "BURNIKEL_ZIEGLER_THRESHOLD"), (0, u "BURNIKEL_ZIEGLER_OFFSET"), (1, u "SCHOENHAGE_BASE_CONVERSION_THRESHOLD"), (1, u "MULTIPLY_SQUARE_THRESHOLD"), (0, u "MONTGOMERY_INTRINSIC_THRESHOLD"), (1, u "SMALL_PRIME_THRESHOLD"), (1, u "DEFAULT_PRIME_CERTAINTY"), (1, u "MAX_CONSTANT"), (3, u "serialVersionUID"), (338, .class_ 1532), (0, u "java/math/BigInteger$RecursiveOp$RecursiveSquare"), (0, .class_ 1534), (0, u "java/math/BigInteger$RecursiveOp$RecursiveMultiply")] 7

def k10c0 : Code := { maxStack := 2, maxLocals := 3, code := jdk_2097_method_25_code, exceptionTable := #[], attributes := #[] }
def k10m0 : Method := { name := "<init>", desc := "([II)V", sig := { parameters := [(.array .int), .int], returnType := none }, accessFlags := 0, code := some k10c0 }
def k10c1 : Code := { maxStack := 4, maxLocals := 2, code := jdk_2097_method_29_code, exceptionTable := #[], attributes := #[] }
def k10m1 : Method := { name := "valueOf", desc := "(J)Ljava/math/BigInteger;", sig := { parameters := [.long], returnType := some (.object "java/math/BigInteger") }, accessFlags := 9, code := some k10c1 }
def k10c2 : Code := { maxStack := 4, maxLocals := 4, code := jdk_2097_method_30_code, exceptionTable := #[], attributes := #[] }
def k10m2 : Method := { name := "<init>", desc := "(J)V", sig := { parameters := [.long], returnType := none }, accessFlags := 2, code := some k10c2 }
def k10c3 : Code := { maxStack := 6, maxLocals := 17, code := jdk_2097_method_44_code, exceptionTable := #[], attributes := #[] }
def k10m3 : Method := { name := "multiply", desc := "(J)Ljava/math/BigInteger;", sig := { parameters := [.long], returnType := some (.object "java/math/BigInteger") }, accessFlags := 0, code := some k10c3 }
def k10c4 : Code := { maxStack := 2, maxLocals := 2, code := jdk_2097_method_63_code, exceptionTable := #[], attributes := #[] }
def k10m4 : Method := { name := "divideAndRemainder", desc := "(Ljava/math/BigInteger;)[Ljava/math/BigInteger;", sig := { parameters := [(.object "java/math/BigInteger")], returnType := some (.array (.object "java/math/BigInteger")) }, accessFlags := 1, code := some k10c4 }
def k10c5 : Code := { maxStack := 5, maxLocals := 7, code := jdk_2097_method_64_code, exceptionTable := #[], attributes := #[] }
def k10m5 : Method := { name := "divideAndRemainderKnuth", desc := "(Ljava/math/BigInteger;)[Ljava/math/BigInteger;", sig := { parameters := [(.object "java/math/BigInteger")], returnType := some (.array (.object "java/math/BigInteger")) }, accessFlags := 2, code := some k10c5 }
def k10c6 : Code := { maxStack := 2, maxLocals := 1, code := jdk_2097_method_74_code, exceptionTable := #[], attributes := #[] }
def k10m6 : Method := { name := "bitLengthForInt", desc := "(I)I", sig := { parameters := [.int], returnType := some .int }, accessFlags := 8, code := some k10c6 }
def k10c7 : Code := { maxStack := 3, maxLocals := 7, code := jdk_2097_method_118_code, exceptionTable := #[], attributes := #[] }
def k10m7 : Method := { name := "bitLength", desc := "()I", sig := { parameters := [], returnType := some .int }, accessFlags := 1, code := some k10c7 }
def k10c8 : Code := { maxStack := 2, maxLocals := 2, code := jdk_2097_method_135_code, exceptionTable := #[], attributes := #[] }
def k10m8 : Method := { name := "intValue", desc := "()I", sig := { parameters := [], returnType := some .int }, accessFlags := 1, code := some k10c8 }
def k10c9 : Code := { maxStack := 6, maxLocals := 4, code := jdk_2097_method_136_code, exceptionTable := #[], attributes := #[] }
def k10m9 : Method := { name := "longValue", desc := "()J", sig := { parameters := [], returnType := some .long }, accessFlags := 1, code := some k10c9 }
def k10c10 : Code := { maxStack := 1, maxLocals := 1, code := jdk_2097_method_147_code, exceptionTable := #[], attributes := #[] }
def k10m10 : Method := { name := "signInt", desc := "()I", sig := { parameters := [], returnType := some .int }, accessFlags := 2, code := some k10c10 }
def k10c11 : Code := { maxStack := 3, maxLocals := 3, code := jdk_2097_method_148_code, exceptionTable := #[], attributes := #[] }
def k10m11 : Method := { name := "getInt", desc := "(I)I", sig := { parameters := [.int], returnType := some .int }, accessFlags := 2, code := some k10c11 }
/-- java/math/BigInteger -/
def k10 : Class := { plain "java/math/BigInteger" (some 7) with
  accessFlags := 33
  interfaces := #[4]
  cf := some (fileOf pool10 23 #[.nestMembers #[907, 472, 1531, 1533]] #[{ accessFlags := 0, nameIndex := 7, descriptorIndex := 177, attributes := #[] }, { accessFlags := 9, nameIndex := 237, descriptorIndex := 238, attributes := #[] }, { accessFlags := 2, nameIndex := 7, descriptorIndex := 358, attributes := #[] }, { accessFlags := 0, nameIndex := 318, descriptorIndex := 238, attributes := #[] }, { accessFlags := 1, nameIndex := 818, descriptorIndex := 554, attributes := #[] }, { accessFlags := 2, nameIndex := 553, descriptorIndex := 554, attributes := #[] }, { accessFlags := 8, nameIndex := 607, descriptorIndex := 82, attributes := #[] }, { accessFlags := 1, nameIndex := 234, descriptorIndex := 74, attributes := #[] }, { accessFlags := 1, nameIndex := 308, descriptorIndex := 74, attributes := #[] }, { accessFlags := 1, nameIndex := 187, descriptorIndex := 188, attributes := #[] }, { accessFlags := 2, nameIndex := 862, descriptorIndex := 74, attributes := #[] }, { accessFlags := 2, nameIndex := 738, descriptorIndex := 82, attributes := #[] }] 33 4 #[1160] #[{ accessFlags := 16, nameIndex := 34, descriptorIndex := 35, attributes := #[] }, { accessFlags := 16, nameIndex := 30, descriptorIndex := 31, attributes := #[] }, { accessFlags := 2, nameIndex := 752, descriptorIndex := 35, attributes := #[] }, { accessFlags := 2, nameIndex := 749, descriptorIndex := 35, attributes := #[] }, { accessFlags := 2, nameIndex := 746, descriptorIndex := 35, attributes := #[] }, { accessFlags := 2, nameIndex := 868, descriptorIndex := 35, attributes := #[] }, { accessFlags := 24, nameIndex := 1162, descriptorIndex := 1163, attributes := #[] }, { accessFlags := 26, nameIndex := 1165, descriptorIndex := 35, attributes := #[] }, { accessFlags := 26, nameIndex := 1166, descriptorIndex := 35, attributes := #[] }, { accessFlags := 26, nameIndex := 1168, descriptorIndex := 35, attributes := #[] }, { accessFlags := 26, nameIndex := 1170, descriptorIndex := 35, attributes := #[] }, { accessFlags := 26, nameIndex := 1172, descriptorIndex := 35, attributes := #[] }, { accessFlags := 26, nameIndex := 1174, descriptorIndex := 35, attributes := #[] }, { accessFlags := 24, nameIndex := 1176, descriptorIndex := 35, attributes := #[] }, { accessFlags := 24, nameIndex := 1177, descriptorIndex := 35, attributes := #[] }, { accessFlags := 26, nameIndex := 1179, descriptorIndex := 35, attributes := #[] }, { accessFlags := 26, nameIndex := 1181, descriptorIndex := 35, attributes := #[] }, { accessFlags := 26, nameIndex := 1182, descriptorIndex := 35, attributes := #[] }, { accessFlags := 10, nameIndex := 95, descriptorIndex := 96, attributes := #[] }, { accessFlags := 26, nameIndex := 1184, descriptorIndex := 35, attributes := #[] }, { accessFlags := 26, nameIndex := 1186, descriptorIndex := 35, attributes := #[] }, { accessFlags := 26, nameIndex := 180, descriptorIndex := 27, attributes := #[] }, { accessFlags := 26, nameIndex := 1188, descriptorIndex := 35, attributes := #[] }, { accessFlags := 26, nameIndex := 349, descriptorIndex := 350, attributes := #[] }, { accessFlags := 26, nameIndex := 355, descriptorIndex := 350, attributes := #[] }, { accessFlags := 74, nameIndex := 821, descriptorIndex := 822, attributes := #[] }, { accessFlags := 26, nameIndex := 763, descriptorIndex := 764, attributes := #[] }, { accessFlags := 26, nameIndex := 759, descriptorIndex := 760, attributes := #[] }, { accessFlags := 25, nameIndex := 26, descriptorIndex := 27, attributes := #[] }, { accessFlags := 25, nameIndex := 260, descriptorIndex := 27, attributes := #[] }, { accessFlags := 25, nameIndex := 267, descriptorIndex := 27, attributes := #[] }, { accessFlags := 26, nameIndex := 581, descriptorIndex := 27, attributes := #[] }, { accessFlags := 25, nameIndex := 1051, descriptorIndex := 27, attributes := #[] }, { accessFlags := 8, nameIndex := 673, descriptorIndex := 31, attributes := #[] }, { accessFlags := 10, nameIndex := 778, descriptorIndex := 35, attributes := #[] }, { accessFlags := 26, nameIndex := 781, descriptorIndex := 782, attributes := #[] }, { accessFlags := 10, nameIndex := 798, descriptorIndex := 31, attributes := #[] }, { accessFlags := 10, nameIndex := 792, descriptorIndex := 350, attributes := #[] }, { accessFlags := 10, nameIndex := 106, descriptorIndex := 31, attributes := #[] }, { accessFlags := 10, nameIndex := 119, descriptorIndex := 31, attributes := #[] }, { accessFlags := 26, nameIndex := 1192, descriptorIndex := 1163, attributes := #[] }, { accessFlags := 26, nameIndex := 1158, descriptorIndex := 1159, attributes := #[] }, { accessFlags := 4120, nameIndex := 311, descriptorIndex := 312, attributes := #[] }])
  fields := #[{ name := "signum", type := .int, accessFlags := 16, slot := 0, constantValue := 0 }, { name := "mag", type := (.array .int), accessFlags := 16, slot := 1, constantValue := 0 }, { name := "bitCountPlusOne", type := .int, accessFlags := 2, slot := 2, constantValue := 0 }, { name := "bitLengthPlusOne", type := .int, accessFlags := 2, slot := 3, constantValue := 0 }, { name := "lowestSetBitPlusTwo", type := .int, accessFlags := 2, slot := 4, constantValue := 0 }, { name := "firstNonzeroIntNumPlusTwo", type := .int, accessFlags := 2, slot := 5, constantValue := 0 }, { name := "LONG_MASK", type := .long, accessFlags := 24, slot := 0, constantValue := 0 }, { name := "MAX_MAG_LENGTH", type := .int, accessFlags := 26, slot := 1, constantValue := 0 }, { name := "PRIME_SEARCH_BIT_LENGTH_LIMIT", type := .int, accessFlags := 26, slot := 2, constantValue := 0 }, { name := "KARATSUBA_THRESHOLD", type := .int, accessFlags := 26, slot := 3, constantValue := 0 }, { name := "TOOM_COOK_THRESHOLD", type := .int, accessFlags := 26, slot := 4, constantValue := 0 }, { name := "KARATSUBA_SQUARE_THRESHOLD", type := .int, accessFlags := 26, slot := 5, constantValue := 0 }, { name := "TOOM_COOK_SQUARE_THRESHOLD", type := .int, accessFlags := 26, slot := 6, constantValue := 0 }, { name := "BURNIKEL_ZIEGLER_THRESHOLD", type := .int, accessFlags := 24, slot := 7, constantValue := 0 }, { name := "BURNIKEL_ZIEGLER_OFFSET", type := .int, accessFlags := 24, slot := 8, constantValue := 0 }, { name := "SCHOENHAGE_BASE_CONVERSION_THRESHOLD", type := .int, accessFlags := 26, slot := 9, constantValue := 0 }, { name := "MULTIPLY_SQUARE_THRESHOLD", type := .int, accessFlags := 26, slot := 10, constantValue := 0 }, { name := "MONTGOMERY_INTRINSIC_THRESHOLD", type := .int, accessFlags := 26, slot := 11, constantValue := 0 }, { name := "bitsPerDigit", type := (.array .long), accessFlags := 10, slot := 12, constantValue := 0 }, { name := "SMALL_PRIME_THRESHOLD", type := .int, accessFlags := 26, slot := 13, constantValue := 0 }, { name := "DEFAULT_PRIME_CERTAINTY", type := .int, accessFlags := 26, slot := 14, constantValue := 0 }, { name := "SMALL_PRIME_PRODUCT", type := (.object "java/math/BigInteger"), accessFlags := 26, slot := 15, constantValue := 0 }, { name := "MAX_CONSTANT", type := .int, accessFlags := 26, slot := 16, constantValue := 0 }, { name := "posConst", type := (.array (.object "java/math/BigInteger")), accessFlags := 26, slot := 17, constantValue := 0 }, { name := "negConst", type := (.array (.object "java/math/BigInteger")), accessFlags := 26, slot := 18, constantValue := 0 }, { name := "powerCache", type := (.array (.array (.object "java/math/BigInteger"))), accessFlags := 74, slot := 19, constantValue := 0 }, { name := "logCache", type := (.array .double), accessFlags := 26, slot := 20, constantValue := 0 }, { name := "LOG_TWO", type := .double, accessFlags := 26, slot := 21, constantValue := 0 }, { name := "ZERO", type := (.object "java/math/BigInteger"), accessFlags := 25, slot := 22, constantValue := 0 }, { name := "ONE", type := (.object "java/math/BigInteger"), accessFlags := 25, slot := 23, constantValue := 0 }, { name := "TWO", type := (.object "java/math/BigInteger"), accessFlags := 25, slot := 24, constantValue := 0 }, { name := "NEGATIVE_ONE", type := (.object "java/math/BigInteger"), accessFlags := 26, slot := 25, constantValue := 0 }, { name := "TEN", type := (.object "java/math/BigInteger"), accessFlags := 25, slot := 26, constantValue := 0 }, { name := "bnExpModThreshTable", type := (.array .int), accessFlags := 8, slot := 27, constantValue := 0 }, { name := "NUM_ZEROS", type := .int, accessFlags := 10, slot := 28, constantValue := 0 }, { name := "ZEROS", type := (.object "java/lang/String"), accessFlags := 26, slot := 29, constantValue := 0 }, { name := "digitsPerLong", type := (.array .int), accessFlags := 10, slot := 30, constantValue := 0 }, { name := "longRadix", type := (.array (.object "java/math/BigInteger")), accessFlags := 10, slot := 31, constantValue := 0 }, { name := "digitsPerInt", type := (.array .int), accessFlags := 10, slot := 32, constantValue := 0 }, { name := "intRadix", type := (.array .int), accessFlags := 10, slot := 33, constantValue := 0 }, { name := "serialVersionUID", type := .long, accessFlags := 26, slot := 34, constantValue := 0 }, { name := "serialPersistentFields", type := (.array (.object "java/io/ObjectStreamField")), accessFlags := 26, slot := 35, constantValue := 0 }, { name := "$assertionsDisabled", type := .boolean, accessFlags := 4120, slot := 36, constantValue := 0 }]
  methods := #[k10m0, k10m1, k10m2, k10m3, k10m4, k10m5, k10m6, k10m7, k10m8, k10m9, k10m10, k10m11]
  instanceTypes := #[.int, (.array .int), .int, .int, .int, .int]
  staticTypes := #[.long, .int, .int, .int, .int, .int, .int, .int, .int, .int, .int, .int, (.array .long), .int, .int, (.object "java/math/BigInteger"), .int, (.array (.object "java/math/BigInteger")), (.array (.object "java/math/BigInteger")), (.array (.array (.object "java/math/BigInteger"))), (.array .double), .double, (.object "java/math/BigInteger"), (.object "java/math/BigInteger"), (.object "java/math/BigInteger"), (.object "java/math/BigInteger"), (.object "java/math/BigInteger"), (.array .int), .int, (.object "java/lang/String"), (.array .int), (.array (.object "java/math/BigInteger")), (.array .int), (.array .int), .long, (.array (.object "java/io/ObjectStreamField")), .boolean]
  resolved := Array.replicate 1542 none
  statics := some 3 }

def pool11 : Array CpInfo := pool [(1, .class_ 2), (0, u "java/math/BigInteger"), (2, .methodref 6 7), (0, .class_ 8), (0, .nameAndType 9 10), (0, u "java/lang/Object"), (0, u "<init>"), (0, u "()V"), (0, .fieldref 12 13), (0, .class_ 14), (0, .nameAndType 15 16), (0, u "java/math/MutableBigInteger"), (0, u "offset"), (0, u "I"), (0, .fieldref 12 18), (0, .nameAndType 19 20), (0, u "value"), (0, u "[I"), (0, .fieldref 12 22), (0, .nameAndType 23 16), (0, u "intLen"), (4, .class_ 30), (1, u "java/util/Arrays"), (2, .methodref 28 34), (0, .nameAndType 35 36), (0, u "copyOfRange"), (0, u "([III)[I"), (0, .methodref 28 38), (0, .nameAndType 39 40), (0, u "fill"), (0, u "([II)V"), (2, u "$assertionsDisabled"), (0, u "Z"), (7, .long 4294967295), (1, .fieldref 1 55), (0, .nameAndType 56 57), (0, u "ZERO"), (0, u "Ljava/math/BigInteger;"), (0, .methodref 12 59), (0, .nameAndType 60 61), (0, u "getMagnitudeArray"), (0, u "()[I"), (0, .methodref 1 63), (0, .nameAndType 9 40), (0, .methodref 12 65), (0, .nameAndType 66 10), (0, u "normalize"), (6, u "toBigInteger"), (0, u "(I)Ljava/math/BigInteger;"), (15, .class_ 92), (1, u "java/lang/Integer"), (1, u "(I)I"), (47, .methodref 12 143), (0, .nameAndType 144 145), (0, u "compare"), (0, u "(Ljava/math/MutableBigInteger;)I"), (3, .methodref 12 150), (0, .nameAndType 151 10), (0, u "clear"), (0, .methodref 90 153), (0, .nameAndType 154 94), (0, u "numberOfLeadingZeros"), (7, u "(Ljava/math/MutableBigInteger;Ljava/math/MutableBigInteger;Z)Ljava/math/MutableBigInteger;"), (0, .methodref 12 164), (0, .nameAndType 165 162), (0, u "divideKnuth"), (3, u "(Ljava/math/MutableBigInteger;Ljava/math/MutableBigInteger;)Ljava/math/MutableBigInteger;"), (7, .methodref 12 7), (0, .methodref 12 179), (0, .nameAndType 180 181), (0, u "divideOneWord"), (0, u "(ILjava/math/MutableBigInteger;)I"), (75, u "ONE"), (0, u "Ljava/math/MutableBigInteger;"), (2, u "([I)V"), (149, u "KNUTH_POW2_THRESH_LEN"), (2, u "KNUTH_POW2_THRESH_ZEROS")] 175

def k11c0 : Code := { maxStack := 2, maxLocals := 1, code := jdk_2101_method_1_code, exceptionTable := #[], attributes := #[] }
def k11m0 : Method := { name := "<init>", desc := "()V", sig := { parameters := [], returnType := none }, accessFlags := 0, code := some k11c0 }
def k11c1 : Code := { maxStack := 2, maxLocals := 2, code := jdk_2101_method_3_code, exceptionTable := #[], attributes := #[] }
def k11m1 : Method := { name := "<init>", desc := "([I)V", sig := { parameters := [(.array .int)], returnType := none }, accessFlags := 0, code := some k11c1 }
def k11c2 : Code := { maxStack := 4, maxLocals := 2, code := jdk_2101_method_7_code, exceptionTable := #[], attributes := #[] }
def k11m2 : Method := { name := "getMagnitudeArray", desc := "()[I", sig := { parameters := [], returnType := some (.array .int) }, accessFlags := 2, code := some k11c2 }
def k11c3 : Code := { maxStack := 4, maxLocals := 2, code := jdk_2101_method_9_code, exceptionTable := #[], attributes := #[] }
def k11m3 : Method := { name := "toBigInteger", desc := "(I)Ljava/math/BigInteger;", sig := { parameters := [.int], returnType := some (.object "java/math/BigInteger") }, accessFlags := 0, code := some k11c3 }
def k11c4 : Code := { maxStack := 4, maxLocals := 3, code := jdk_2101_method_13_code, exceptionTable := #[], attributes := #[] }
def k11m4 : Method := { name := "clear", desc := "()V", sig := { parameters := [], returnType := none }, accessFlags := 0, code := some k11c4 }
def k11c5 : Code := { maxStack := 3, maxLocals := 8, code := jdk_2101_method_15_code, exceptionTable := #[], attributes := #[] }
def k11m5 : Method := { name := "compare", desc := "(Ljava/math/MutableBigInteger;)I", sig := { parameters := [(.object "java/math/MutableBigInteger")], returnType := some .int }, accessFlags := 16, code := some k11c5 }
def k11c6 : Code := { maxStack := 3, maxLocals := 4, code := jdk_2101_method_21_code, exceptionTable := #[], attributes := #[] }
def k11m6 : Method := { name := "normalize", desc := "()V", sig := { parameters := [], returnType := none }, accessFlags := 16, code := some k11c6 }
def k11c7 : Code := { maxStack := 6, maxLocals := 15, code := jdk_2101_method_53_code, exceptionTable := #[], attributes := #[] }
def k11m7 : Method := { name := "divideOneWord", desc := "(ILjava/math/MutableBigInteger;)I", sig := { parameters := [.int, (.object "java/math/MutableBigInteger")], returnType := some .int }, accessFlags := 0, code := some k11c7 }
def k11c8 : Code := { maxStack := 4, maxLocals := 3, code := jdk_2101_method_56_code, exceptionTable := #[], attributes := #[] }
def k11m8 : Method := { name := "divideKnuth", desc := "(Ljava/math/MutableBigInteger;Ljava/math/MutableBigInteger;)Ljava/math/MutableBigInteger;", sig := { parameters := [(.object "java/math/MutableBigInteger"), (.object "java/math/MutableBigInteger")], returnType := some (.object "java/math/MutableBigInteger") }, accessFlags := 0, code := some k11c8 }
def k11c9 : Code := { maxStack := 5, maxLocals := 8, code := jdk_2101_method_57_code, exceptionTable := #[], attributes := #[] }
def k11m9 : Method := { name := "divideKnuth", desc := "(Ljava/math/MutableBigInteger;Ljava/math/MutableBigInteger;Z)Ljava/math/MutableBigInteger;", sig := { parameters := [(.object "java/math/MutableBigInteger"), (.object "java/math/MutableBigInteger"), .boolean], returnType := some (.object "java/math/MutableBigInteger") }, accessFlags := 0, code := some k11c9 }
/-- java/math/MutableBigInteger -/
def k11 : Class := { plain "java/math/MutableBigInteger" (some 0) with
  accessFlags := 32
  interfaces := #[]
  cf := some (fileOf pool11 12 #[] #[{ accessFlags := 0, nameIndex := 9, descriptorIndex := 10, attributes := #[] }, { accessFlags := 0, nameIndex := 9, descriptorIndex := 261, attributes := #[] }, { accessFlags := 2, nameIndex := 60, descriptorIndex := 61, attributes := #[] }, { accessFlags := 0, nameIndex := 73, descriptorIndex := 74, attributes := #[] }, { accessFlags := 0, nameIndex := 151, descriptorIndex := 10, attributes := #[] }, { accessFlags := 16, nameIndex := 144, descriptorIndex := 145, attributes := #[] }, { accessFlags := 16, nameIndex := 66, descriptorIndex := 10, attributes := #[] }, { accessFlags := 0, nameIndex := 180, descriptorIndex := 181, attributes := #[] }, { accessFlags := 0, nameIndex := 165, descriptorIndex := 169, attributes := #[] }, { accessFlags := 0, nameIndex := 165, descriptorIndex := 162, attributes := #[] }] 32 6 #[] #[{ accessFlags := 0, nameIndex := 19, descriptorIndex := 20, attributes := #[] }, { accessFlags := 0, nameIndex := 23, descriptorIndex := 16, attributes := #[] }, { accessFlags := 0, nameIndex := 15, descriptorIndex := 16, attributes := #[] }, { accessFlags := 24, nameIndex := 257, descriptorIndex := 258, attributes := #[] }, { accessFlags := 24, nameIndex := 411, descriptorIndex := 16, attributes := #[] }, { accessFlags := 24, nameIndex := 414, descriptorIndex := 16, attributes := #[] }, { accessFlags := 4120, nameIndex := 43, descriptorIndex := 44, attributes := #[] }])
  fields := #[{ name := "value", type := (.array .int), accessFlags := 0, slot := 0, constantValue := 0 }, { name := "intLen", type := .int, accessFlags := 0, slot := 1, constantValue := 0 }, { name := "offset", type := .int, accessFlags := 0, slot := 2, constantValue := 0 }, { name := "ONE", type := (.object "java/math/MutableBigInteger"), accessFlags := 24, slot := 0, constantValue := 0 }, { name := "KNUTH_POW2_THRESH_LEN", type := .int, accessFlags := 24, slot := 1, constantValue := 0 }, { name := "KNUTH_POW2_THRESH_ZEROS", type := .int, accessFlags := 24, slot := 2, constantValue := 0 }, { name := "$assertionsDisabled", type := .boolean, accessFlags := 4120, slot := 3, constantValue := 0 }]
  methods := #[k11m0, k11m1, k11m2, k11m3, k11m4, k11m5, k11m6, k11m7, k11m8, k11m9]
  instanceTypes := #[(.array .int), .int, .int]
  staticTypes := #[(.object "java/math/MutableBigInteger"), .int, .int, .boolean]
  resolved := Array.replicate 590 none
  statics := none }

def pool12 : Array CpInfo := pool [(1, .class_ 2), (0, u "java/lang/constant/Constable"), (0, .class_ 4), (0, u "java/lang/Object")] 6

/-- java/lang/constant/Constable -/
def k12 : Class := { plain "java/lang/constant/Constable" (some 0) with
  accessFlags := 1537
  interfaces := #[]
  cf := some (fileOf pool12 1 #[] #[] 1537 3 #[] #[])
  fields := #[]
  methods := #[]
  instanceTypes := #[]
  staticTypes := #[]
  resolved := Array.replicate 11 none
  statics := none }

def pool13 : Array CpInfo := pool [(1, .class_ 2), (0, u "java/lang/constant/ConstantDesc"), (0, .class_ 4), (0, u "java/lang/Object")] 32

/-- java/lang/constant/ConstantDesc -/
def k13 : Class := { plain "java/lang/constant/ConstantDesc" (some 0) with
  accessFlags := 1537
  interfaces := #[]
  cf := some (fileOf pool13 1 #[] #[] 1537 3 #[] #[])
  fields := #[]
  methods := #[]
  instanceTypes := #[]
  staticTypes := #[]
  resolved := Array.replicate 37 none
  statics := none }

def pool14 : Array CpInfo := pool [(1, .class_ 2), (0, u "java/lang/Integer"), (16, u "digits"), (0, u "[C"), (32, u "numberOfLeadingZeros"), (0, u "(I)I"), (30, u "DigitOnes"), (0, u "[B"), (2, u "DigitTens"), (99, .class_ 190), (0, u "java/lang/Integer$IntegerCache"), (3, u "I"), (8, .class_ 204), (0, u "java/lang/Number"), (2, u "value"), (56, .integer 65536), (37, u "TYPE"), (0, u "Ljava/lang/Class;"), (0, .class_ 305), (0, u "java/lang/Comparable"), (0, .class_ 307), (0, u "java/lang/constant/Constable"), (0, .class_ 309), (0, u "java/lang/constant/ConstantDesc"), (0, u "MIN_VALUE"), (1, u "MAX_VALUE"), (3, u "SIZE"), (1, u "BYTES"), (1, u "serialVersionUID"), (0, u "J")] 131

def k14c0 : Code := { maxStack := 3, maxLocals := 2, code := jdk_33_method_47_code, exceptionTable := #[], attributes := #[] }
def k14m0 : Method := { name := "numberOfLeadingZeros", desc := "(I)I", sig := { parameters := [.int], returnType := some .int }, accessFlags := 9, code := some k14c0 }
/-- java/lang/Integer -/
def k14 : Class := { plain "java/lang/Integer" (some 7) with
  accessFlags := 49
  interfaces := #[4, 12, 13]
  cf := some (fileOf pool14 1 #[.nestMembers #[189]] #[{ accessFlags := 9, nameIndex := 53, descriptorIndex := 54, attributes := #[] }] 49 203 #[304, 306, 308] #[{ accessFlags := 25, nameIndex := 310, descriptorIndex := 194, attributes := #[] }, { accessFlags := 25, nameIndex := 312, descriptorIndex := 194, attributes := #[] }, { accessFlags := 25, nameIndex := 302, descriptorIndex := 303, attributes := #[] }, { accessFlags := 24, nameIndex := 19, descriptorIndex := 20, attributes := #[] }, { accessFlags := 24, nameIndex := 89, descriptorIndex := 86, attributes := #[] }, { accessFlags := 24, nameIndex := 85, descriptorIndex := 86, attributes := #[] }, { accessFlags := 18, nameIndex := 207, descriptorIndex := 194, attributes := #[] }, { accessFlags := 25, nameIndex := 316, descriptorIndex := 194, attributes := #[] }, { accessFlags := 25, nameIndex := 318, descriptorIndex := 194, attributes := #[] }, { accessFlags := 26, nameIndex := 320, descriptorIndex := 321, attributes := #[] }])
  fields := #[{ name := "MIN_VALUE", type := .int, accessFlags := 25, slot := 0, constantValue := 0 }, { name := "MAX_VALUE", type := .int, accessFlags := 25, slot := 1, constantValue := 0 }, { name := "TYPE", type := (.object "java/lang/Class"), accessFlags := 25, slot := 2, constantValue := 0 }, { name := "digits", type := (.array .char), accessFlags := 24, slot := 3, constantValue := 0 }, { name := "DigitTens", type := (.array .byte), accessFlags := 24, slot := 4, constantValue := 0 }, { name := "DigitOnes", type := (.array .byte), accessFlags := 24, slot := 5, constantValue := 0 }, { name := "value", type := .int, accessFlags := 18, slot := 0, constantValue := 0 }, { name := "SIZE", type := .int, accessFlags := 25, slot := 6, constantValue := 0 }, { name := "BYTES", type := .int, accessFlags := 25, slot := 7, constantValue := 0 }, { name := "serialVersionUID", type := .long, accessFlags := 26, slot := 8, constantValue := 0 }]
  methods := #[k14m0]
  instanceTypes := #[.int]
  staticTypes := #[.int, .int, (.object "java/lang/Class"), (.array .char), (.array .byte), (.array .byte), .int, .int, .long]
  resolved := Array.replicate 453 none
  statics := none }

def pool15 : Array CpInfo := pool [(2, .class_ 4), (1, u "java/lang/Object"), (0, u "<init>"), (0, u "()V"), (7, .class_ 16), (1, u "java/util/Arrays"), (57, .class_ 76), (1, u "java/util/Arrays$NaturalOrder"), (36, .class_ 115), (1, u "java/util/Arrays$LegacyMergeSort"), (1, u "Z"), (21, u "copyOfRange"), (10, .methodref 151 152), (0, .class_ 153), (0, .nameAndType 154 155), (0, u "java/lang/System"), (0, u "arraycopy"), (0, u "(Ljava/lang/Object;ILjava/lang/Object;II)V"), (148, .methodref 305 306), (0, .class_ 307), (0, .nameAndType 308 309), (0, u "java/lang/Math"), (0, u "min"), (0, u "(II)I"), (33, .methodref 14 344), (0, .nameAndType 345 346), (0, u "checkLength"), (0, u "(II)V"), (4, .methodref 14 352), (0, .nameAndType 353 354), (0, u "copyOfRangeInt"), (0, u "([III)[I"), (20, .class_ 376), (0, u "java/util/Arrays$ArrayList"), (68, u "$assertionsDisabled"), (269, u "MIN_ARRAY_SORT_GRAN"), (0, u "I"), (2, u "INSERTIONSORT_THRESHOLD"), (120, u "fill"), (4, u "([II)V"), (129, .class_ 976), (0, u "java/util/Arrays$ArrayItr")] 52

def k15m0 : Method := { name := "<init>", desc := "()V", sig := { parameters := [], returnType := none }, accessFlags := 2, code := none }
def k15c1 : Code := { maxStack := 3, maxLocals := 4, code := jdk_65_method_103_code, exceptionTable := #[], attributes := #[] }
def k15m1 : Method := { name := "fill", desc := "([II)V", sig := { parameters := [(.array .int), .int], returnType := none }, accessFlags := 9, code := some k15c1 }
def k15c2 : Code := { maxStack := 4, maxLocals := 2, code := jdk_65_method_131_code, exceptionTable := #[], attributes := #[] }
def k15m2 : Method := { name := "checkLength", desc := "(II)V", sig := { parameters := [.int, .int], returnType := none }, accessFlags := 10, code := some k15c2 }
def k15c3 : Code := { maxStack := 3, maxLocals := 3, code := jdk_65_method_136_code, exceptionTable := #[], attributes := #[] }
def k15m3 : Method := { name := "copyOfRange", desc := "([III)[I", sig := { parameters := [(.array .int), .int, .int], returnType := some (.array .int) }, accessFlags := 9, code := some k15c3 }
def k15c4 : Code := { maxStack := 6, maxLocals := 5, code := jdk_65_method_137_code, exceptionTable := #[], attributes := #[] }
def k15m4 : Method := { name := "copyOfRangeInt", desc := "([III)[I", sig := { parameters := [(.array .int), .int, .int], returnType := some (.array .int) }, accessFlags := 10, code := some k15c4 }
/-- java/util/Arrays -/
def k15 : Class := { plain "java/util/Arrays" (some 0) with
  accessFlags := 49
  interfaces := #[]
  cf := some (fileOf pool15 14 #[.nestMembers #[975, 375, 113, 74]] #[{ accessFlags := 2, nameIndex := 5, descriptorIndex := 6, attributes := #[] }, { accessFlags := 9, nameIndex := 840, descriptorIndex := 845, attributes := #[] }, { accessFlags := 10, nameIndex := 345, descriptorIndex := 346, attributes := #[] }, { accessFlags := 9, nameIndex := 139, descriptorIndex := 354, attributes := #[] }, { accessFlags := 10, nameIndex := 353, descriptorIndex := 354, attributes := #[] }] 49 2 #[] #[{ accessFlags := 26, nameIndex := 715, descriptorIndex := 716, attributes := #[] }, { accessFlags := 26, nameIndex := 719, descriptorIndex := 716, attributes := #[] }, { accessFlags := 4120, nameIndex := 445, descriptorIndex := 117, attributes := #[] }])
  fields := #[{ name := "MIN_ARRAY_SORT_GRAN", type := .int, accessFlags := 26, slot := 0, constantValue := 0 }, { name := "INSERTIONSORT_THRESHOLD", type := .int, accessFlags := 26, slot := 1, constantValue := 0 }, { name := "$assertionsDisabled", type := .boolean, accessFlags := 4120, slot := 2, constantValue := 0 }]
  methods := #[k15m0, k15m1, k15m2, k15m3, k15m4]
  instanceTypes := #[]
  staticTypes := #[.int, .int, .boolean]
  resolved := Array.replicate 1029 none
  statics := none }

def pool16 : Array CpInfo := pool [(2, .class_ 4), (1, u "java/lang/Object"), (0, u "<init>"), (0, u "()V"), (1, .class_ 10), (1, u "java/lang/System"), (0, u "allowSecurityManager"), (0, u "I"), (16, u "cons"), (0, u "Ljava/io/Console;"), (77, .class_ 110), (1, u "java/lang/System$CallersHolder"), (43, u "initialErrStream"), (0, u "Ljava/io/PrintStream;"), (19, u "security"), (0, u "Ljava/lang/SecurityManager;"), (31, .class_ 209), (0, u "java/lang/System$1"), (7, u "props"), (0, u "Ljava/util/Properties;"), (2, u "lineSeparator"), (0, u "Ljava/lang/String;"), (96, .class_ 321), (1, u "java/lang/System$LoggerFinder"), (5, .class_ 328), (0, u "java/lang/System$Logger"), (67, u "err"), (2, u "out"), (91, u "notSupportedJnuEncoding"), (15, u "in"), (17, u "initialIn"), (0, u "Ljava/io/InputStream;"), (35, u "bootLayer"), (0, u "Ljava/lang/ModuleLayer;"), (99, .class_ 664), (0, u "java/lang/System$2"), (9, u "NEVER"), (2, u "MAYBE"), (49, u "arraycopy"), (0, u "(Ljava/lang/Object;ILjava/lang/Object;II)V"), (72, .class_ 802), (0, u "java/lang/System$Logger$Level")] 31

def k16m0 : Method := { name := "<init>", desc := "()V", sig := { parameters := [], returnType := none }, accessFlags := 2, code := none }
def k16m1 : Method := { name := "arraycopy", desc := "(Ljava/lang/Object;ILjava/lang/Object;II)V", sig := { parameters := [(.object "java/lang/Object"), .int, (.object "java/lang/Object"), .int, .int], returnType := none }, accessFlags := 265, code := none }
/-- java/lang/System -/
def k16 : Class := { plain "java/lang/System" (some 0) with
  accessFlags := 49
  interfaces := #[]
  cf := some (fileOf pool16 8 #[.nestMembers #[319, 327, 801, 108, 663, 208]] #[{ accessFlags := 2, nameIndex := 5, descriptorIndex := 6, attributes := #[] }, { accessFlags := 265, nameIndex := 727, descriptorIndex := 728, attributes := #[] }] 49 2 #[] #[{ accessFlags := 25, nameIndex := 507, descriptorIndex := 526, attributes := #[] }, { accessFlags := 25, nameIndex := 399, descriptorIndex := 155, attributes := #[] }, { accessFlags := 25, nameIndex := 396, descriptorIndex := 155, attributes := #[] }, { accessFlags := 10, nameIndex := 525, descriptorIndex := 526, attributes := #[] }, { accessFlags := 26, nameIndex := 674, descriptorIndex := 12, attributes := #[] }, { accessFlags := 26, nameIndex := 677, descriptorIndex := 12, attributes := #[] }, { accessFlags := 10, nameIndex := 11, descriptorIndex := 12, attributes := #[] }, { accessFlags := 74, nameIndex := 175, descriptorIndex := 176, attributes := #[] }, { accessFlags := 10, nameIndex := 491, descriptorIndex := 222, attributes := #[] }, { accessFlags := 74, nameIndex := 29, descriptorIndex := 30, attributes := #[] }, { accessFlags := 74, nameIndex := 154, descriptorIndex := 155, attributes := #[] }, { accessFlags := 10, nameIndex := 217, descriptorIndex := 218, attributes := #[] }, { accessFlags := 10, nameIndex := 221, descriptorIndex := 222, attributes := #[] }, { accessFlags := 8, nameIndex := 562, descriptorIndex := 563, attributes := #[] }])
  fields := #[{ name := "in", type := (.object "java/io/InputStream"), accessFlags := 25, slot := 0, constantValue := 0 }, { name := "out", type := (.object "java/io/PrintStream"), accessFlags := 25, slot := 1, constantValue := 0 }, { name := "err", type := (.object "java/io/PrintStream"), accessFlags := 25, slot := 2, constantValue := 0 }, { name := "initialIn", type := (.object "java/io/InputStream"), accessFlags := 10, slot := 3, constantValue := 0 }, { name := "NEVER", type := .int, accessFlags := 26, slot := 4, constantValue := 0 }, { name := "MAYBE", type := .int, accessFlags := 26, slot := 5, constantValue := 0 }, { name := "allowSecurityManager", type := .int, accessFlags := 10, slot := 6, constantValue := 0 }, { name := "security", type := (.object "java/lang/SecurityManager"), accessFlags := 74, slot := 7, constantValue := 0 }, { name := "notSupportedJnuEncoding", type := (.object "java/lang/String"), accessFlags := 10, slot := 8, constantValue := 0 }, { name := "cons", type := (.object "java/io/Console"), accessFlags := 74, slot := 9, constantValue := 0 }, { name := "initialErrStream", type := (.object "java/io/PrintStream"), accessFlags := 74, slot := 10, constantValue := 0 }, { name := "props", type := (.object "java/util/Properties"), accessFlags := 10, slot := 11, constantValue := 0 }, { name := "lineSeparator", type := (.object "java/lang/String"), accessFlags := 10, slot := 12, constantValue := 0 }, { name := "bootLayer", type := (.object "java/lang/ModuleLayer"), accessFlags := 8, slot := 13, constantValue := 0 }]
  methods := #[k16m0, k16m1]
  instanceTypes := #[]
  staticTypes := #[(.object "java/io/InputStream"), (.object "java/io/PrintStream"), (.object "java/io/PrintStream"), (.object "java/io/InputStream"), .int, .int, .int, (.object "java/lang/SecurityManager"), (.object "java/lang/String"), (.object "java/io/Console"), (.object "java/io/PrintStream"), (.object "java/util/Properties"), (.object "java/lang/String"), (.object "java/lang/ModuleLayer")]
  resolved := Array.replicate 834 none
  statics := none }

def pool17 : Array CpInfo := pool [(1, u "java/lang/Cloneable"), (0, .class_ 1), (0, u "java/lang/Object"), (0, .class_ 3)] 3

/-- java/lang/Cloneable -/
def k17 : Class := { plain "java/lang/Cloneable" (some 0) with
  accessFlags := 1537
  interfaces := #[]
  cf := some (fileOf pool17 2 #[] #[] 1537 4 #[] #[])
  fields := #[]
  methods := #[]
  instanceTypes := #[]
  staticTypes := #[]
  resolved := Array.replicate 8 none
  statics := none }

/-- the primitive byte -/
def k18 : Class := { plain "byte" none with kind := .primitive 'B', accessFlags := 0x411 }
/-- [B -/
def k19 : Class := { plain "[B" (some 0) with kind := .array 18 .byte, interfaces := #[17, 5], accessFlags := 1041 }

/-- the primitive int -/
def k20 : Class := { plain "int" none with kind := .primitive 'I', accessFlags := 0x411 }
/-- [I -/
def k21 : Class := { plain "[I" (some 0) with kind := .array 20 .int, interfaces := #[17, 5], accessFlags := 1041 }

/-- the primitive long -/
def k22 : Class := { plain "long" none with kind := .primitive 'J', accessFlags := 0x411 }
/-- [J -/
def k23 : Class := { plain "[J" (some 0) with kind := .array 22 .long, interfaces := #[17, 5], accessFlags := 1041 }

/-- [Ljava/math/BigDecimal; -/
def k24 : Class := { plain "[Ljava/math/BigDecimal;" (some 0) with kind := .array 8 (.object "java/math/BigDecimal"), interfaces := #[17, 5], accessFlags := 1041 }

/-- [Ljava/math/BigInteger; -/
def k25 : Class := { plain "[Ljava/math/BigInteger;" (some 0) with kind := .array 10 (.object "java/math/BigInteger"), interfaces := #[17, 5], accessFlags := 1041 }

def heap : Heap := #[{ cls := 2, slots := #[.ref 58, .int 0], vm := .statics 2 },
  { cls := 6, slots := #[.null, .long 0, .ref 55], vm := .statics 6 },
  { cls := 8, slots := #[.double 0, .int 0, .int 0, .int 0, .int 0, .int 0, .int 0, .long 0, .null, .int 0, .long 0, .ref 4, .ref 5, .long 0, .long 0, .ref 28, .ref 29, .ref 30, .ref 38, .null, .null, .int 0, .int 0, .int 0, .int 0, .int 0, .int 0, .int 0, .int 0, .null, .null, .ref 56, .null, .int 0, .int 0, .ref 57, .long 0, .null, .int 0], vm := .statics 8 },
  { cls := 10, slots := #[.long 0, .int 0, .int 0, .int 0, .int 0, .int 0, .int 0, .int 0, .int 0, .int 0, .int 0, .int 0, .null, .int 0, .int 0, .null, .int 0, .null, .null, .null, .null, .double 0, .ref 7, .ref 9, .ref 11, .null, .ref 27, .null, .int 0, .null, .null, .null, .null, .null, .long 0, .null, .int 0], vm := .statics 10 },
  { cls := 24, slots := #[.ref 28, .ref 29, .ref 30, .ref 31, .ref 32, .ref 33, .ref 34, .ref 35, .ref 36, .ref 37, .ref 38], vm := .none },
  { cls := 24, slots := #[.ref 28, .ref 39, .ref 40, .ref 41, .ref 42, .ref 43, .ref 44, .ref 45, .ref 46, .ref 47, .ref 48, .ref 49, .ref 50, .ref 51, .ref 52, .ref 53], vm := .none },
  { cls := 21, slots := #[], vm := .none },
  { cls := 10, slots := #[.int 0, .ref 6, .int 0, .int 0, .int 0, .int 0], vm := .none },
  { cls := 21, slots := #[.int 1], vm := .none },
  { cls := 10, slots := #[.int 1, .ref 8, .int 0, .int 0, .int 0, .int 0], vm := .none },
  { cls := 21, slots := #[.int 2], vm := .none },
  { cls := 10, slots := #[.int 1, .ref 10, .int 0, .int 0, .int 0, .int 0], vm := .none },
  { cls := 21, slots := #[.int 3], vm := .none },
  { cls := 10, slots := #[.int 1, .ref 12, .int 0, .int 0, .int 0, .int 0], vm := .none },
  { cls := 21, slots := #[.int 4], vm := .none },
  { cls := 10, slots := #[.int 1, .ref 14, .int 0, .int 0, .int 0, .int 0], vm := .none },
  { cls := 21, slots := #[.int 5], vm := .none },
  { cls := 10, slots := #[.int 1, .ref 16, .int 0, .int 0, .int 0, .int 0], vm := .none },
  { cls := 21, slots := #[.int 6], vm := .none },
  { cls := 10, slots := #[.int 1, .ref 18, .int 0, .int 0, .int 0, .int 0], vm := .none },
  { cls := 21, slots := #[.int 7], vm := .none },
  { cls := 10, slots := #[.int 1, .ref 20, .int 0, .int 0, .int 0, .int 0], vm := .none },
  { cls := 21, slots := #[.int 8], vm := .none },
  { cls := 10, slots := #[.int 1, .ref 22, .int 0, .int 0, .int 0, .int 0], vm := .none },
  { cls := 21, slots := #[.int 9], vm := .none },
  { cls := 10, slots := #[.int 1, .ref 24, .int 0, .int 0, .int 0, .int 0], vm := .none },
  { cls := 21, slots := #[.int 10], vm := .none },
  { cls := 10, slots := #[.int 1, .ref 26, .int 0, .int 0, .int 0, .int 0], vm := .none },
  { cls := 8, slots := #[.ref 7, .int 0, .int 0, .null, .long 0], vm := .none },
  { cls := 8, slots := #[.ref 9, .int 0, .int 0, .null, .long 1], vm := .none },
  { cls := 8, slots := #[.ref 11, .int 0, .int 0, .null, .long 2], vm := .none },
  { cls := 8, slots := #[.ref 13, .int 0, .int 0, .null, .long 3], vm := .none },
  { cls := 8, slots := #[.ref 15, .int 0, .int 0, .null, .long 4], vm := .none },
  { cls := 8, slots := #[.ref 17, .int 0, .int 0, .null, .long 5], vm := .none },
  { cls := 8, slots := #[.ref 19, .int 0, .int 0, .null, .long 6], vm := .none },
  { cls := 8, slots := #[.ref 21, .int 0, .int 0, .null, .long 7], vm := .none },
  { cls := 8, slots := #[.ref 23, .int 0, .int 0, .null, .long 8], vm := .none },
  { cls := 8, slots := #[.ref 25, .int 0, .int 0, .null, .long 9], vm := .none },
  { cls := 8, slots := #[.ref 27, .int 0, .int 0, .null, .long 10], vm := .none },
  { cls := 8, slots := #[.ref 7, .int 1, .int 0, .null, .long 0], vm := .none },
  { cls := 8, slots := #[.ref 7, .int 2, .int 0, .null, .long 0], vm := .none },
  { cls := 8, slots := #[.ref 7, .int 3, .int 0, .null, .long 0], vm := .none },
  { cls := 8, slots := #[.ref 7, .int 4, .int 0, .null, .long 0], vm := .none },
  { cls := 8, slots := #[.ref 7, .int 5, .int 0, .null, .long 0], vm := .none },
  { cls := 8, slots := #[.ref 7, .int 6, .int 0, .null, .long 0], vm := .none },
  { cls := 8, slots := #[.ref 7, .int 7, .int 0, .null, .long 0], vm := .none },
  { cls := 8, slots := #[.ref 7, .int 8, .int 0, .null, .long 0], vm := .none },
  { cls := 8, slots := #[.ref 7, .int 9, .int 0, .null, .long 0], vm := .none },
  { cls := 8, slots := #[.ref 7, .int 10, .int 0, .null, .long 0], vm := .none },
  { cls := 8, slots := #[.ref 7, .int 11, .int 0, .null, .long 0], vm := .none },
  { cls := 8, slots := #[.ref 7, .int 12, .int 0, .null, .long 0], vm := .none },
  { cls := 8, slots := #[.ref 7, .int 13, .int 0, .null, .long 0], vm := .none },
  { cls := 8, slots := #[.ref 7, .int 14, .int 0, .null, .long 0], vm := .none },
  { cls := 8, slots := #[.ref 7, .int 15, .int 0, .null, .long 0], vm := .none },
  { cls := 21, slots := #[.int 1000000000], vm := .none },
  { cls := 10, slots := #[.int 1, .ref 54, .int 0, .int 0, .int 0, .int 0], vm := .none },
  { cls := 23, slots := #[.long 1, .long 10, .long 100, .long 1000, .long 10000, .long 100000, .long 1000000, .long 10000000, .long 100000000, .long 1000000000, .long 10000000000, .long 100000000000, .long 1000000000000, .long 10000000000000, .long 100000000000000, .long 1000000000000000, .long 10000000000000000, .long 100000000000000000, .long 1000000000000000000], vm := .none },
  { cls := 23, slots := #[.long 9223372036854775807, .long 922337203685477580, .long 92233720368547758, .long 9223372036854775, .long 922337203685477, .long 92233720368547, .long 9223372036854, .long 922337203685, .long 92233720368, .long 9223372036, .long 922337203, .long 92233720, .long 9223372, .long 922337, .long 92233, .long 9223, .long 922, .long 92, .long 9], vm := .none },
  { cls := 6, slots := #[.long 4, .int 0], vm := .none }]
def classes : Array Class := #[k0, k1, k2, k3, k4, k5, k6, k7, k8, k9, k10, k11, k12, k13, k14, k15, k16, k17, k18, k19, k20, k21, k22, k23, k24, k25]
def interned : List (Array UInt16 × Addr) := []
def slotsUsed : Nat := 361
def theMethod : MethodId := ⟨1, 1⟩
def args0 : Array Value := #[.int 3]
def aboutOver (below : List Frame) : State where
  vm := { classes := classes, interned := interned.toArray }
  heap := heap
  slotsUsed := slotsUsed
  threads := #[{ frames := .invoking theMethod args0 :: below }]
def below0 : List Frame := [.native { method := ⟨0, 0⟩, args := #[] }]
def about1 : State := aboutOver below0
def p0 : Program := .bare "" "" ""
def e0 : Env := launch0.env 0 0 0
theorem w_frames : about1.frames = Frame.invoking theMethod args0 :: below0 := rfl
set_option maxRecDepth 65536 in
theorem w_args : argsFit about1.vm theMethod args0 = true := by decide +kernel
set_option maxRecDepth 65536 in
theorem w_heap : heapFits about1 = true := by decide +kernel
set_option maxRecDepth 65536 in
theorem w_runnable : about1.curStatus? = some .runnable := by decide +kernel
set_option maxRecDepth 65536 in
theorem w_alone : about1.alone = true := by decide +kernel
set_option maxRecDepth 65536 in
theorem w_named : about1.methodNamed? x = some theMethod := by decide +kernel
set_option maxRecDepth 65536 in
theorem w_hears : about1.hears theMethod below0 = true := by decide +kernel
set_option maxRecDepth 65536 in
theorem w_ripe : about1.ripe theMethod args0 below0 = true := by decide +kernel
theorem w_running : about1.status = .running := rfl
set_option maxRecDepth 65536 in
theorem w_room : about1.hasRoom e0.platform room_1 = true :=
  launch0.hasRoom_least _ room_1 (by decide +kernel) (by decide +kernel) (by decide +kernel) (by decide +kernel) (by decide +kernel) (by decide +kernel)
theorem allAtoms_all (ts : List Jvm.Cond) (a : Array Jvm.Value) (st : Jvm.State) : (allAtoms ts).before a st = ts.all (fun c => c.before a st) := by
  induction ts with
  | nil => rfl
  | cons c t ih =>
    show (Jvm.Cond.and c (allAtoms t)).before a st = _
    rw [Jvm.Cond.before_and, ih, List.all_cons]
def words1 : List Jvm.Cond := Jvm.Cond.code x code maxLocals ret :: tables_1
/-- a 'code' word, met by the world's own term for the bytes: nothing is compared byte by byte -/
theorem code_word {y : MethodName} {bytes : ByteArray} {mx : Nat} {rt : Option FieldType} {a : Array Value} {s : State} {m : MethodId} {meth : Method} {c : Code} (h1 : s.methodNamed? y = some m) (h2 : s.vm.method? m = some meth) (h3 : meth.code = some c) (h4 : c.code = bytes)
    (h5 : (c.maxLocals == mx && c.exceptionTable.isEmpty && decide (c.maxStack ≤ mostOperands) && decide (meth.sig.returnType = rt) && !meth.locks && decide (parseMethodDescriptor y.desc = some meth.sig)) = true) : (Jvm.Cond.code y bytes mx rt).before a s = true := by
  simp only [Bool.and_eq_true, beq_iff_eq, Bool.not_eq_true', decide_eq_true_eq] at h5
  obtain ⟨⟨⟨⟨⟨g1, g2⟩, g3⟩, g4⟩, g5⟩, g6⟩ := h5
  simp [Cond.before, Cond.holds, Cond.value, h1, h2, h3, h4, g1, g2, g3, g4, g5, g6]
def isCode : Jvm.Cond → Bool
  | .code _ _ _ _ => true
  | _ => false
theorem all_split {L : List Jvm.Cond} {P : Jvm.Cond → Bool} (h1 : L.all (fun c => isCode c || P c) = true) (h2 : ∀ c ∈ L.filter isCode, P c = true) : L.all P = true := by
  refine List.all_eq_true.mpr fun c hc => ?_
  have h := List.all_eq_true.mp h1 c hc
  rcases Bool.eq_false_or_eq_true (isCode c) with hi | hi
  · exact h2 c (List.mem_filter.mpr ⟨hc, hi⟩)
  · simpa [hi] using h
set_option maxRecDepth 65536 in
theorem w_c0 : (Jvm.Cond.code x code maxLocals ret).before args0 about1 = true := code_word (m := ⟨1, 1⟩) (meth := k1m1) (c := k1c1) (by decide +kernel) rfl rfl rfl (by decide +kernel)
set_option maxRecDepth 65536 in
theorem w_c1 : (Jvm.Cond.code ({ cls := "com/example/services_on_tap/servicesontap/RetryBackoff", name := "delayBefore", desc := "(I)Ljava/time/Duration;" } : Jvm.MethodName) prog_22_method_2_code (1 : Nat) (Option.some (Jvm.ClassFile.FieldType.object "java/time/Duration"))).before args0 about1 = true := code_word (m := ⟨2, 1⟩) (meth := k2m1) (c := k2c1) (by decide +kernel) rfl rfl rfl (by decide +kernel)
set_option maxRecDepth 65536 in
theorem w_c2 : (Jvm.Cond.code ({ cls := "java/time/Duration", name := "multipliedBy", desc := "(J)Ljava/time/Duration;" } : Jvm.MethodName) jdk_2316_method_44_code (3 : Nat) (Option.some (Jvm.ClassFile.FieldType.object "java/time/Duration"))).before args0 about1 = true := code_word (m := ⟨6, 5⟩) (meth := k6m5) (c := k6c5) (by decide +kernel) rfl rfl rfl (by decide +kernel)
set_option maxRecDepth 65536 in
theorem w_c3 : (Jvm.Cond.code ({ cls := "java/time/Duration", name := "getSeconds", desc := "()J" } : Jvm.MethodName) jdk_2316_method_23_code (1 : Nat) (Option.some Jvm.ClassFile.FieldType.long)).before args0 about1 = true := code_word (m := ⟨6, 3⟩) (meth := k6m3) (c := k6c3) (by decide +kernel) rfl rfl rfl (by decide +kernel)
set_option maxRecDepth 65536 in
theorem w_c4 : (Jvm.Cond.code ({ cls := "java/time/Duration", name := "getNano", desc := "()I" } : Jvm.MethodName) jdk_2316_method_24_code (1 : Nat) (Option.some Jvm.ClassFile.FieldType.int)).before args0 about1 = true := code_word (m := ⟨6, 4⟩) (meth := k6m4) (c := k6c4) (by decide +kernel) rfl rfl rfl (by decide +kernel)
set_option maxRecDepth 65536 in
theorem w_c5 : (Jvm.Cond.code ({ cls := "java/time/Duration", name := "toBigDecimalSeconds", desc := "()Ljava/math/BigDecimal;" } : Jvm.MethodName) jdk_2316_method_47_code (1 : Nat) (Option.some (Jvm.ClassFile.FieldType.object "java/math/BigDecimal"))).before args0 about1 = true := code_word (m := ⟨6, 6⟩) (meth := k6m6) (c := k6c6) (by decide +kernel) rfl rfl rfl (by decide +kernel)
set_option maxRecDepth 65536 in
theorem w_c6 : (Jvm.Cond.code ({ cls := "java/math/BigDecimal", name := "valueOf", desc := "(J)Ljava/math/BigDecimal;" } : Jvm.MethodName) jdk_17_method_21_code (2 : Nat) (Option.some (Jvm.ClassFile.FieldType.object "java/math/BigDecimal"))).before args0 about1 = true := code_word (m := ⟨8, 2⟩) (meth := k8m2) (c := k8c2) (by decide +kernel) rfl rfl rfl (by decide +kernel)
set_option maxRecDepth 65536 in
theorem w_c7 : (Jvm.Cond.code ({ cls := "java/math/BigDecimal", name := "valueOf", desc := "(JI)Ljava/math/BigDecimal;" } : Jvm.MethodName) jdk_17_method_20_code (3 : Nat) (Option.some (Jvm.ClassFile.FieldType.object "java/math/BigDecimal"))).before args0 about1 = true := code_word (m := ⟨8, 1⟩) (meth := k8m1) (c := k8c1) (by decide +kernel) rfl rfl rfl (by decide +kernel)
set_option maxRecDepth 65536 in
theorem w_c8 : (Jvm.Cond.code ({ cls := "java/math/BigDecimal", name := "zeroValueOf", desc := "(I)Ljava/math/BigDecimal;" } : Jvm.MethodName) jdk_17_method_24_code (1 : Nat) (Option.some (Jvm.ClassFile.FieldType.object "java/math/BigDecimal"))).before args0 about1 = true := code_word (m := ⟨8, 3⟩) (meth := k8m3) (c := k8c3) (by decide +kernel) rfl rfl rfl (by decide +kernel)
set_option maxRecDepth 65536 in
theorem w_c9 : (Jvm.Cond.code ({ cls := "java/math/BigDecimal", name := "add", desc := "(Ljava/math/BigDecimal;)Ljava/math/BigDecimal;" } : Jvm.MethodName) jdk_17_method_26_code (2 : Nat) (Option.some (Jvm.ClassFile.FieldType.object "java/math/BigDecimal"))).before args0 about1 = true := code_word (m := ⟨8, 4⟩) (meth := k8m4) (c := k8c4) (by decide +kernel) rfl rfl rfl (by decide +kernel)
set_option maxRecDepth 65536 in
theorem w_c10 : (Jvm.Cond.code ({ cls := "java/math/BigDecimal", name := "add", desc := "(JIJI)Ljava/math/BigDecimal;" } : Jvm.MethodName) jdk_17_method_134_code (12 : Nat) (Option.some (Jvm.ClassFile.FieldType.object "java/math/BigDecimal"))).before args0 about1 = true := code_word (m := ⟨8, 15⟩) (meth := k8m15) (c := k8c15) (by decide +kernel) rfl rfl rfl (by decide +kernel)
set_option maxRecDepth 65536 in
theorem w_c11 : (Jvm.Cond.code ({ cls := "java/math/BigDecimal", name := "checkScale", desc := "(JJ)I" } : Jvm.MethodName) jdk_17_method_113_code (5 : Nat) (Option.some Jvm.ClassFile.FieldType.int)).before args0 about1 = true := code_word (m := ⟨8, 12⟩) (meth := k8m12) (c := k8c12) (by decide +kernel) rfl rfl rfl (by decide +kernel)
set_option maxRecDepth 65536 in
theorem w_c12 : (Jvm.Cond.code ({ cls := "java/math/BigDecimal", name := "longMultiplyPowerTen", desc := "(JI)J" } : Jvm.MethodName) jdk_17_method_97_code (7 : Nat) (Option.some Jvm.ClassFile.FieldType.long)).before args0 about1 = true := code_word (m := ⟨8, 9⟩) (meth := k8m9) (c := k8c9) (by decide +kernel) rfl rfl rfl (by decide +kernel)
set_option maxRecDepth 65536 in
theorem w_c13 : (Jvm.Cond.code ({ cls := "java/lang/Math", name := "abs", desc := "(J)J" } : Jvm.MethodName) jdk_29_method_61_code (2 : Nat) (Option.some Jvm.ClassFile.FieldType.long)).before args0 about1 = true := code_word (m := ⟨9, 4⟩) (meth := k9m4) (c := k9c4) (by decide +kernel) rfl rfl rfl (by decide +kernel)
set_option maxRecDepth 65536 in
theorem w_c14 : (Jvm.Cond.code ({ cls := "java/math/BigDecimal", name := "add", desc := "(JJI)Ljava/math/BigDecimal;" } : Jvm.MethodName) jdk_17_method_133_code (7 : Nat) (Option.some (Jvm.ClassFile.FieldType.object "java/math/BigDecimal"))).before args0 about1 = true := code_word (m := ⟨8, 14⟩) (meth := k8m14) (c := k8c14) (by decide +kernel) rfl rfl rfl (by decide +kernel)
set_option maxRecDepth 65536 in
theorem w_c15 : (Jvm.Cond.code ({ cls := "java/math/BigDecimal", name := "add", desc := "(JJ)J" } : Jvm.MethodName) jdk_17_method_132_code (6 : Nat) (Option.some Jvm.ClassFile.FieldType.long)).before args0 about1 = true := code_word (m := ⟨8, 13⟩) (meth := k8m13) (c := k8c13) (by decide +kernel) rfl rfl rfl (by decide +kernel)
set_option maxRecDepth 65536 in
theorem w_c16 : (Jvm.Cond.code ({ cls := "java/math/BigDecimal", name := "<init>", desc := "(Ljava/math/BigInteger;JII)V" } : Jvm.MethodName) jdk_17_method_1_code (6 : Nat) (Option.none : Option Jvm.ClassFile.FieldType)).before args0 about1 = true := code_word (m := ⟨8, 0⟩) (meth := k8m0) (c := k8c0) (by decide +kernel) rfl rfl rfl (by decide +kernel)
set_option maxRecDepth 65536 in
theorem w_c17 : (Jvm.Cond.code ({ cls := "java/lang/Number", name := "<init>", desc := "()V" } : Jvm.MethodName) jdk_18_method_1_code (1 : Nat) (Option.none : Option Jvm.ClassFile.FieldType)).before args0 about1 = true := code_word (m := ⟨7, 0⟩) (meth := k7m0) (c := k7c0) (by decide +kernel) rfl rfl rfl (by decide +kernel)
set_option maxRecDepth 65536 in
theorem w_c18 : (Jvm.Cond.code ({ cls := "java/lang/Object", name := "<init>", desc := "()V" } : Jvm.MethodName) object_method_1_code (1 : Nat) (Option.none : Option Jvm.ClassFile.FieldType)).before args0 about1 = true := code_word (m := ⟨0, 0⟩) (meth := k0m0) (c := k0c0) (by decide +kernel) rfl rfl rfl (by decide +kernel)
set_option maxRecDepth 65536 in
theorem w_c19 : (Jvm.Cond.code ({ cls := "java/math/BigDecimal", name := "multiply", desc := "(Ljava/math/BigDecimal;)Ljava/math/BigDecimal;" } : Jvm.MethodName) jdk_17_method_31_code (3 : Nat) (Option.some (Jvm.ClassFile.FieldType.object "java/math/BigDecimal"))).before args0 about1 = true := code_word (m := ⟨8, 5⟩) (meth := k8m5) (c := k8c5) (by decide +kernel) rfl rfl rfl (by decide +kernel)
set_option maxRecDepth 65536 in
theorem w_c20 : (Jvm.Cond.code ({ cls := "java/math/BigDecimal", name := "checkScale", desc := "(J)I" } : Jvm.MethodName) jdk_17_method_106_code (5 : Nat) (Option.some Jvm.ClassFile.FieldType.int)).before args0 about1 = true := code_word (m := ⟨8, 11⟩) (meth := k8m11) (c := k8c11) (by decide +kernel) rfl rfl rfl (by decide +kernel)
set_option maxRecDepth 65536 in
theorem w_c21 : (Jvm.Cond.code ({ cls := "java/math/BigDecimal", name := "multiply", desc := "(JJI)Ljava/math/BigDecimal;" } : Jvm.MethodName) jdk_17_method_157_code (7 : Nat) (Option.some (Jvm.ClassFile.FieldType.object "java/math/BigDecimal"))).before args0 about1 = true := code_word (m := ⟨8, 17⟩) (meth := k8m17) (c := k8c17) (by decide +kernel) rfl rfl rfl (by decide +kernel)
set_option maxRecDepth 65536 in
theorem w_c22 : (Jvm.Cond.code ({ cls := "java/math/BigDecimal", name := "multiply", desc := "(JJ)J" } : Jvm.MethodName) jdk_17_method_156_code (10 : Nat) (Option.some Jvm.ClassFile.FieldType.long)).before args0 about1 = true := code_word (m := ⟨8, 16⟩) (meth := k8m16) (c := k8c16) (by decide +kernel) rfl rfl rfl (by decide +kernel)
set_option maxRecDepth 65536 in
theorem w_c23 : (Jvm.Cond.code ({ cls := "java/time/Duration", name := "create", desc := "(Ljava/math/BigDecimal;)Ljava/time/Duration;" } : Jvm.MethodName) jdk_2316_method_48_code (3 : Nat) (Option.some (Jvm.ClassFile.FieldType.object "java/time/Duration"))).before args0 about1 = true := code_word (m := ⟨6, 7⟩) (meth := k6m7) (c := k6c7) (by decide +kernel) rfl rfl rfl (by decide +kernel)
set_option maxRecDepth 65536 in
theorem w_c24 : (Jvm.Cond.code ({ cls := "java/math/BigDecimal", name := "movePointRight", desc := "(I)Ljava/math/BigDecimal;" } : Jvm.MethodName) jdk_17_method_67_code (4 : Nat) (Option.some (Jvm.ClassFile.FieldType.object "java/math/BigDecimal"))).before args0 about1 = true := code_word (m := ⟨8, 7⟩) (meth := k8m7) (c := k8c7) (by decide +kernel) rfl rfl rfl (by decide +kernel)
set_option maxRecDepth 65536 in
theorem w_c25 : (Jvm.Cond.code ({ cls := "java/math/BigDecimal", name := "toBigIntegerExact", desc := "()Ljava/math/BigInteger;" } : Jvm.MethodName) jdk_17_method_81_code (1 : Nat) (Option.some (Jvm.ClassFile.FieldType.object "java/math/BigInteger"))).before args0 about1 = true := code_word (m := ⟨8, 8⟩) (meth := k8m8) (c := k8c8) (by decide +kernel) rfl rfl rfl (by decide +kernel)
set_option maxRecDepth 65536 in
theorem w_c26 : (Jvm.Cond.code ({ cls := "java/math/BigDecimal", name := "setScale", desc := "(II)Ljava/math/BigDecimal;" } : Jvm.MethodName) jdk_17_method_64_code (8 : Nat) (Option.some (Jvm.ClassFile.FieldType.object "java/math/BigDecimal"))).before args0 about1 = true := code_word (m := ⟨8, 6⟩) (meth := k8m6) (c := k8c6) (by decide +kernel) rfl rfl rfl (by decide +kernel)
set_option maxRecDepth 65536 in
theorem w_c27 : (Jvm.Cond.code ({ cls := "java/math/BigDecimal", name := "inflated", desc := "()Ljava/math/BigInteger;" } : Jvm.MethodName) jdk_17_method_99_code (1 : Nat) (Option.some (Jvm.ClassFile.FieldType.object "java/math/BigInteger"))).before args0 about1 = true := code_word (m := ⟨8, 10⟩) (meth := k8m10) (c := k8c10) (by decide +kernel) rfl rfl rfl (by decide +kernel)
set_option maxRecDepth 65536 in
theorem w_c28 : (Jvm.Cond.code ({ cls := "java/math/BigInteger", name := "valueOf", desc := "(J)Ljava/math/BigInteger;" } : Jvm.MethodName) jdk_2097_method_29_code (2 : Nat) (Option.some (Jvm.ClassFile.FieldType.object "java/math/BigInteger"))).before args0 about1 = true := code_word (m := ⟨10, 1⟩) (meth := k10m1) (c := k10c1) (by decide +kernel) rfl rfl rfl (by decide +kernel)
set_option maxRecDepth 65536 in
theorem w_c29 : (Jvm.Cond.code ({ cls := "java/math/BigInteger", name := "<init>", desc := "(J)V" } : Jvm.MethodName) jdk_2097_method_30_code (4 : Nat) (Option.none : Option Jvm.ClassFile.FieldType)).before args0 about1 = true := code_word (m := ⟨10, 2⟩) (meth := k10m2) (c := k10c2) (by decide +kernel) rfl rfl rfl (by decide +kernel)
set_option maxRecDepth 65536 in
theorem w_c30 : (Jvm.Cond.code ({ cls := "java/math/BigInteger", name := "divideAndRemainder", desc := "(Ljava/math/BigInteger;)[Ljava/math/BigInteger;" } : Jvm.MethodName) jdk_2097_method_63_code (2 : Nat) (Option.some (Jvm.ClassFile.FieldType.array (Jvm.ClassFile.FieldType.object "java/math/BigInteger")))).before args0 about1 = true := code_word (m := ⟨10, 4⟩) (meth := k10m4) (c := k10c4) (by decide +kernel) rfl rfl rfl (by decide +kernel)
set_option maxRecDepth 65536 in
theorem w_c31 : (Jvm.Cond.code ({ cls := "java/math/BigInteger", name := "divideAndRemainderKnuth", desc := "(Ljava/math/BigInteger;)[Ljava/math/BigInteger;" } : Jvm.MethodName) jdk_2097_method_64_code (7 : Nat) (Option.some (Jvm.ClassFile.FieldType.array (Jvm.ClassFile.FieldType.object "java/math/BigInteger")))).before args0 about1 = true := code_word (m := ⟨10, 5⟩) (meth := k10m5) (c := k10c5) (by decide +kernel) rfl rfl rfl (by decide +kernel)
set_option maxRecDepth 65536 in
theorem w_c32 : (Jvm.Cond.code ({ cls := "java/math/MutableBigInteger", name := "<init>", desc := "()V" } : Jvm.MethodName) jdk_2101_method_1_code (1 : Nat) (Option.none : Option Jvm.ClassFile.FieldType)).before args0 about1 = true := code_word (m := ⟨11, 0⟩) (meth := k11m0) (c := k11c0) (by decide +kernel) rfl rfl rfl (by decide +kernel)
set_option maxRecDepth 65536 in
theorem w_c33 : (Jvm.Cond.code ({ cls := "java/math/MutableBigInteger", name := "<init>", desc := "([I)V" } : Jvm.MethodName) jdk_2101_method_3_code (2 : Nat) (Option.none : Option Jvm.ClassFile.FieldType)).before args0 about1 = true := code_word (m := ⟨11, 1⟩) (meth := k11m1) (c := k11c1) (by decide +kernel) rfl rfl rfl (by decide +kernel)
set_option maxRecDepth 65536 in
theorem w_c34 : (Jvm.Cond.code ({ cls := "java/math/MutableBigInteger", name := "divideKnuth", desc := "(Ljava/math/MutableBigInteger;Ljava/math/MutableBigInteger;)Ljava/math/MutableBigInteger;" } : Jvm.MethodName) jdk_2101_method_56_code (3 : Nat) (Option.some (Jvm.ClassFile.FieldType.object "java/math/MutableBigInteger"))).before args0 about1 = true := code_word (m := ⟨11, 8⟩) (meth := k11m8) (c := k11c8) (by decide +kernel) rfl rfl rfl (by decide +kernel)
set_option maxRecDepth 65536 in
theorem w_c35 : (Jvm.Cond.code ({ cls := "java/math/MutableBigInteger", name := "divideKnuth", desc := "(Ljava/math/MutableBigInteger;Ljava/math/MutableBigInteger;Z)Ljava/math/MutableBigInteger;" } : Jvm.MethodName) jdk_2101_method_57_code (8 : Nat) (Option.some (Jvm.ClassFile.FieldType.object "java/math/MutableBigInteger"))).before args0 about1 = true := code_word (m := ⟨11, 9⟩) (meth := k11m9) (c := k11c9) (by decide +kernel) rfl rfl rfl (by decide +kernel)
set_option maxRecDepth 65536 in
theorem w_c36 : (Jvm.Cond.code ({ cls := "java/math/MutableBigInteger", name := "compare", desc := "(Ljava/math/MutableBigInteger;)I" } : Jvm.MethodName) jdk_2101_method_15_code (8 : Nat) (Option.some Jvm.ClassFile.FieldType.int)).before args0 about1 = true := code_word (m := ⟨11, 5⟩) (meth := k11m5) (c := k11c5) (by decide +kernel) rfl rfl rfl (by decide +kernel)
set_option maxRecDepth 65536 in
theorem w_c37 : (Jvm.Cond.code ({ cls := "java/math/MutableBigInteger", name := "clear", desc := "()V" } : Jvm.MethodName) jdk_2101_method_13_code (3 : Nat) (Option.none : Option Jvm.ClassFile.FieldType)).before args0 about1 = true := code_word (m := ⟨11, 4⟩) (meth := k11m4) (c := k11c4) (by decide +kernel) rfl rfl rfl (by decide +kernel)
set_option maxRecDepth 65536 in
theorem w_c38 : (Jvm.Cond.code ({ cls := "java/math/MutableBigInteger", name := "divideOneWord", desc := "(ILjava/math/MutableBigInteger;)I" } : Jvm.MethodName) jdk_2101_method_53_code (15 : Nat) (Option.some Jvm.ClassFile.FieldType.int)).before args0 about1 = true := code_word (m := ⟨11, 7⟩) (meth := k11m7) (c := k11c7) (by decide +kernel) rfl rfl rfl (by decide +kernel)
set_option maxRecDepth 65536 in
theorem w_c39 : (Jvm.Cond.code ({ cls := "java/lang/Integer", name := "numberOfLeadingZeros", desc := "(I)I" } : Jvm.MethodName) jdk_33_method_47_code (2 : Nat) (Option.some Jvm.ClassFile.FieldType.int)).before args0 about1 = true := code_word (m := ⟨14, 0⟩) (meth := k14m0) (c := k14c0) (by decide +kernel) rfl rfl rfl (by decide +kernel)
set_option maxRecDepth 65536 in
theorem w_c40 : (Jvm.Cond.code ({ cls := "java/math/MutableBigInteger", name := "normalize", desc := "()V" } : Jvm.MethodName) jdk_2101_method_21_code (4 : Nat) (Option.none : Option Jvm.ClassFile.FieldType)).before args0 about1 = true := code_word (m := ⟨11, 6⟩) (meth := k11m6) (c := k11c6) (by decide +kernel) rfl rfl rfl (by decide +kernel)
set_option maxRecDepth 65536 in
theorem w_c41 : (Jvm.Cond.code ({ cls := "java/math/MutableBigInteger", name := "toBigInteger", desc := "(I)Ljava/math/BigInteger;" } : Jvm.MethodName) jdk_2101_method_9_code (2 : Nat) (Option.some (Jvm.ClassFile.FieldType.object "java/math/BigInteger"))).before args0 about1 = true := code_word (m := ⟨11, 3⟩) (meth := k11m3) (c := k11c3) (by decide +kernel) rfl rfl rfl (by decide +kernel)
set_option maxRecDepth 65536 in
theorem w_c42 : (Jvm.Cond.code ({ cls := "java/math/MutableBigInteger", name := "getMagnitudeArray", desc := "()[I" } : Jvm.MethodName) jdk_2101_method_7_code (2 : Nat) (Option.some (Jvm.ClassFile.FieldType.array Jvm.ClassFile.FieldType.int))).before args0 about1 = true := code_word (m := ⟨11, 2⟩) (meth := k11m2) (c := k11c2) (by decide +kernel) rfl rfl rfl (by decide +kernel)
set_option maxRecDepth 65536 in
theorem w_c43 : (Jvm.Cond.code ({ cls := "java/util/Arrays", name := "copyOfRange", desc := "([III)[I" } : Jvm.MethodName) jdk_65_method_136_code (3 : Nat) (Option.some (Jvm.ClassFile.FieldType.array Jvm.ClassFile.FieldType.int))).before args0 about1 = true := code_word (m := ⟨15, 3⟩) (meth := k15m3) (c := k15c3) (by decide +kernel) rfl rfl rfl (by decide +kernel)
set_option maxRecDepth 65536 in
theorem w_c44 : (Jvm.Cond.code ({ cls := "java/util/Arrays", name := "copyOfRangeInt", desc := "([III)[I" } : Jvm.MethodName) jdk_65_method_137_code (5 : Nat) (Option.some (Jvm.ClassFile.FieldType.array Jvm.ClassFile.FieldType.int))).before args0 about1 = true := code_word (m := ⟨15, 4⟩) (meth := k15m4) (c := k15c4) (by decide +kernel) rfl rfl rfl (by decide +kernel)
set_option maxRecDepth 65536 in
theorem w_c45 : (Jvm.Cond.code ({ cls := "java/util/Arrays", name := "checkLength", desc := "(II)V" } : Jvm.MethodName) jdk_65_method_131_code (2 : Nat) (Option.none : Option Jvm.ClassFile.FieldType)).before args0 about1 = true := code_word (m := ⟨15, 2⟩) (meth := k15m2) (c := k15c2) (by decide +kernel) rfl rfl rfl (by decide +kernel)
set_option maxRecDepth 65536 in
theorem w_c46 : (Jvm.Cond.code ({ cls := "java/lang/Math", name := "min", desc := "(II)I" } : Jvm.MethodName) jdk_29_method_69_code (2 : Nat) (Option.some Jvm.ClassFile.FieldType.int)).before args0 about1 = true := code_word (m := ⟨9, 5⟩) (meth := k9m5) (c := k9c5) (by decide +kernel) rfl rfl rfl (by decide +kernel)
set_option maxRecDepth 65536 in
theorem w_c47 : (Jvm.Cond.code ({ cls := "java/util/Arrays", name := "fill", desc := "([II)V" } : Jvm.MethodName) jdk_65_method_103_code (4 : Nat) (Option.none : Option Jvm.ClassFile.FieldType)).before args0 about1 = true := code_word (m := ⟨15, 1⟩) (meth := k15m1) (c := k15c1) (by decide +kernel) rfl rfl rfl (by decide +kernel)
set_option maxRecDepth 65536 in
theorem w_c48 : (Jvm.Cond.code ({ cls := "java/math/BigInteger", name := "<init>", desc := "([II)V" } : Jvm.MethodName) jdk_2097_method_25_code (3 : Nat) (Option.none : Option Jvm.ClassFile.FieldType)).before args0 about1 = true := code_word (m := ⟨10, 0⟩) (meth := k10m0) (c := k10c0) (by decide +kernel) rfl rfl rfl (by decide +kernel)
set_option maxRecDepth 65536 in
theorem w_c49 : (Jvm.Cond.code ({ cls := "java/math/BigInteger", name := "bitLength", desc := "()I" } : Jvm.MethodName) jdk_2097_method_118_code (7 : Nat) (Option.some Jvm.ClassFile.FieldType.int)).before args0 about1 = true := code_word (m := ⟨10, 7⟩) (meth := k10m7) (c := k10c7) (by decide +kernel) rfl rfl rfl (by decide +kernel)
set_option maxRecDepth 65536 in
theorem w_c50 : (Jvm.Cond.code ({ cls := "java/math/BigInteger", name := "bitLengthForInt", desc := "(I)I" } : Jvm.MethodName) jdk_2097_method_74_code (1 : Nat) (Option.some Jvm.ClassFile.FieldType.int)).before args0 about1 = true := code_word (m := ⟨10, 6⟩) (meth := k10m6) (c := k10c6) (by decide +kernel) rfl rfl rfl (by decide +kernel)
set_option maxRecDepth 65536 in
theorem w_c51 : (Jvm.Cond.code ({ cls := "java/math/BigInteger", name := "longValue", desc := "()J" } : Jvm.MethodName) jdk_2097_method_136_code (4 : Nat) (Option.some Jvm.ClassFile.FieldType.long)).before args0 about1 = true := code_word (m := ⟨10, 9⟩) (meth := k10m9) (c := k10c9) (by decide +kernel) rfl rfl rfl (by decide +kernel)
set_option maxRecDepth 65536 in
theorem w_c52 : (Jvm.Cond.code ({ cls := "java/math/BigInteger", name := "getInt", desc := "(I)I" } : Jvm.MethodName) jdk_2097_method_148_code (3 : Nat) (Option.some Jvm.ClassFile.FieldType.int)).before args0 about1 = true := code_word (m := ⟨10, 11⟩) (meth := k10m11) (c := k10c11) (by decide +kernel) rfl rfl rfl (by decide +kernel)
set_option maxRecDepth 65536 in
theorem w_c53 : (Jvm.Cond.code ({ cls := "java/math/BigInteger", name := "signInt", desc := "()I" } : Jvm.MethodName) jdk_2097_method_147_code (1 : Nat) (Option.some Jvm.ClassFile.FieldType.int)).before args0 about1 = true := code_word (m := ⟨10, 10⟩) (meth := k10m10) (c := k10c10) (by decide +kernel) rfl rfl rfl (by decide +kernel)
set_option maxRecDepth 65536 in
theorem w_c54 : (Jvm.Cond.code ({ cls := "java/math/BigInteger", name := "intValue", desc := "()I" } : Jvm.MethodName) jdk_2097_method_135_code (2 : Nat) (Option.some Jvm.ClassFile.FieldType.int)).before args0 about1 = true := code_word (m := ⟨10, 8⟩) (meth := k10m8) (c := k10c8) (by decide +kernel) rfl rfl rfl (by decide +kernel)
set_option maxRecDepth 65536 in
theorem w_c55 : (Jvm.Cond.code ({ cls := "java/time/Duration", name := "ofSeconds", desc := "(JJ)Ljava/time/Duration;" } : Jvm.MethodName) jdk_2316_method_5_code (7 : Nat) (Option.some (Jvm.ClassFile.FieldType.object "java/time/Duration"))).before args0 about1 = true := code_word (m := ⟨6, 0⟩) (meth := k6m0) (c := k6c0) (by decide +kernel) rfl rfl rfl (by decide +kernel)
set_option maxRecDepth 65536 in
theorem w_c56 : (Jvm.Cond.code ({ cls := "java/lang/Math", name := "floorDiv", desc := "(JJ)J" } : Jvm.MethodName) jdk_29_method_49_code (6 : Nat) (Option.some Jvm.ClassFile.FieldType.long)).before args0 about1 = true := code_word (m := ⟨9, 2⟩) (meth := k9m2) (c := k9c2) (by decide +kernel) rfl rfl rfl (by decide +kernel)
set_option maxRecDepth 65536 in
theorem w_c57 : (Jvm.Cond.code ({ cls := "java/lang/Math", name := "addExact", desc := "(JJ)J" } : Jvm.MethodName) jdk_29_method_25_code (6 : Nat) (Option.some Jvm.ClassFile.FieldType.long)).before args0 about1 = true := code_word (m := ⟨9, 1⟩) (meth := k9m1) (c := k9c1) (by decide +kernel) rfl rfl rfl (by decide +kernel)
set_option maxRecDepth 65536 in
theorem w_c58 : (Jvm.Cond.code ({ cls := "java/lang/Math", name := "floorMod", desc := "(JJ)J" } : Jvm.MethodName) jdk_29_method_52_code (6 : Nat) (Option.some Jvm.ClassFile.FieldType.long)).before args0 about1 = true := code_word (m := ⟨9, 3⟩) (meth := k9m3) (c := k9c3) (by decide +kernel) rfl rfl rfl (by decide +kernel)
set_option maxRecDepth 65536 in
theorem w_c59 : (Jvm.Cond.code ({ cls := "java/time/Duration", name := "create", desc := "(JI)Ljava/time/Duration;" } : Jvm.MethodName) jdk_2316_method_16_code (3 : Nat) (Option.some (Jvm.ClassFile.FieldType.object "java/time/Duration"))).before args0 about1 = true := code_word (m := ⟨6, 1⟩) (meth := k6m1) (c := k6c1) (by decide +kernel) rfl rfl rfl (by decide +kernel)
set_option maxRecDepth 65536 in
theorem w_c60 : (Jvm.Cond.code ({ cls := "java/time/Duration", name := "<init>", desc := "(JI)V" } : Jvm.MethodName) jdk_2316_method_17_code (4 : Nat) (Option.none : Option Jvm.ClassFile.FieldType)).before args0 about1 = true := code_word (m := ⟨6, 2⟩) (meth := k6m2) (c := k6c2) (by decide +kernel) rfl rfl rfl (by decide +kernel)
set_option maxRecDepth 65536 in
theorem w_c61 : (Jvm.Cond.code ({ cls := "java/math/BigInteger", name := "multiply", desc := "(J)Ljava/math/BigInteger;" } : Jvm.MethodName) jdk_2097_method_44_code (17 : Nat) (Option.some (Jvm.ClassFile.FieldType.object "java/math/BigInteger"))).before args0 about1 = true := code_word (m := ⟨10, 3⟩) (meth := k10m3) (c := k10c3) (by decide +kernel) rfl rfl rfl (by decide +kernel)
def codes1 : List Jvm.Cond := [Jvm.Cond.code x code maxLocals ret, Jvm.Cond.code ({ cls := "com/example/services_on_tap/servicesontap/RetryBackoff", name := "delayBefore", desc := "(I)Ljava/time/Duration;" } : Jvm.MethodName) prog_22_method_2_code (1 : Nat) (Option.some (Jvm.ClassFile.FieldType.object "java/time/Duration")), Jvm.Cond.code ({ cls := "java/time/Duration", name := "multipliedBy", desc := "(J)Ljava/time/Duration;" } : Jvm.MethodName) jdk_2316_method_44_code (3 : Nat) (Option.some (Jvm.ClassFile.FieldType.object "java/time/Duration")), Jvm.Cond.code ({ cls := "java/time/Duration", name := "getSeconds", desc := "()J" } : Jvm.MethodName) jdk_2316_method_23_code (1 : Nat) (Option.some Jvm.ClassFile.FieldType.long), Jvm.Cond.code ({ cls := "java/time/Duration", name := "getNano", desc := "()I" } : Jvm.MethodName) jdk_2316_method_24_code (1 : Nat) (Option.some Jvm.ClassFile.FieldType.int), Jvm.Cond.code ({ cls := "java/time/Duration", name := "toBigDecimalSeconds", desc := "()Ljava/math/BigDecimal;" } : Jvm.MethodName) jdk_2316_method_47_code (1 : Nat) (Option.some (Jvm.ClassFile.FieldType.object "java/math/BigDecimal")), Jvm.Cond.code ({ cls := "java/math/BigDecimal", name := "valueOf", desc := "(J)Ljava/math/BigDecimal;" } : Jvm.MethodName) jdk_17_method_21_code (2 : Nat) (Option.some (Jvm.ClassFile.FieldType.object "java/math/BigDecimal")), Jvm.Cond.code ({ cls := "java/math/BigDecimal", name := "valueOf", desc := "(JI)Ljava/math/BigDecimal;" } : Jvm.MethodName) jdk_17_method_20_code (3 : Nat) (Option.some (Jvm.ClassFile.FieldType.object "java/math/BigDecimal")), Jvm.Cond.code ({ cls := "java/math/BigDecimal", name := "zeroValueOf", desc := "(I)Ljava/math/BigDecimal;" } : Jvm.MethodName) jdk_17_method_24_code (1 : Nat) (Option.some (Jvm.ClassFile.FieldType.object "java/math/BigDecimal")), Jvm.Cond.code ({ cls := "java/math/BigDecimal", name := "add", desc := "(Ljava/math/BigDecimal;)Ljava/math/BigDecimal;" } : Jvm.MethodName) jdk_17_method_26_code (2 : Nat) (Option.some (Jvm.ClassFile.FieldType.object "java/math/BigDecimal")), Jvm.Cond.code ({ cls := "java/math/BigDecimal", name := "add", desc := "(JIJI)Ljava/math/BigDecimal;" } : Jvm.MethodName) jdk_17_method_134_code (12 : Nat) (Option.some (Jvm.ClassFile.FieldType.object "java/math/BigDecimal")), Jvm.Cond.code ({ cls := "java/math/BigDecimal", name := "checkScale", desc := "(JJ)I" } : Jvm.MethodName) jdk_17_method_113_code (5 : Nat) (Option.some Jvm.ClassFile.FieldType.int), Jvm.Cond.code ({ cls := "java/math/BigDecimal", name := "longMultiplyPowerTen", desc := "(JI)J" } : Jvm.MethodName) jdk_17_method_97_code (7 : Nat) (Option.some Jvm.ClassFile.FieldType.long), Jvm.Cond.code ({ cls := "java/lang/Math", name := "abs", desc := "(J)J" } : Jvm.MethodName) jdk_29_method_61_code (2 : Nat) (Option.some Jvm.ClassFile.FieldType.long), Jvm.Cond.code ({ cls := "java/math/BigDecimal", name := "add", desc := "(JJI)Ljava/math/BigDecimal;" } : Jvm.MethodName) jdk_17_method_133_code (7 : Nat) (Option.some (Jvm.ClassFile.FieldType.object "java/math/BigDecimal")), Jvm.Cond.code ({ cls := "java/math/BigDecimal", name := "add", desc := "(JJ)J" } : Jvm.MethodName) jdk_17_method_132_code (6 : Nat) (Option.some Jvm.ClassFile.FieldType.long), Jvm.Cond.code ({ cls := "java/math/BigDecimal", name := "<init>", desc := "(Ljava/math/BigInteger;JII)V" } : Jvm.MethodName) jdk_17_method_1_code (6 : Nat) (Option.none : Option Jvm.ClassFile.FieldType), Jvm.Cond.code ({ cls := "java/lang/Number", name := "<init>", desc := "()V" } : Jvm.MethodName) jdk_18_method_1_code (1 : Nat) (Option.none : Option Jvm.ClassFile.FieldType), Jvm.Cond.code ({ cls := "java/lang/Object", name := "<init>", desc := "()V" } : Jvm.MethodName) object_method_1_code (1 : Nat) (Option.none : Option Jvm.ClassFile.FieldType), Jvm.Cond.code ({ cls := "java/math/BigDecimal", name := "multiply", desc := "(Ljava/math/BigDecimal;)Ljava/math/BigDecimal;" } : Jvm.MethodName) jdk_17_method_31_code (3 : Nat) (Option.some (Jvm.ClassFile.FieldType.object "java/math/BigDecimal")), Jvm.Cond.code ({ cls := "java/math/BigDecimal", name := "checkScale", desc := "(J)I" } : Jvm.MethodName) jdk_17_method_106_code (5 : Nat) (Option.some Jvm.ClassFile.FieldType.int), Jvm.Cond.code ({ cls := "java/math/BigDecimal", name := "multiply", desc := "(JJI)Ljava/math/BigDecimal;" } : Jvm.MethodName) jdk_17_method_157_code (7 : Nat) (Option.some (Jvm.ClassFile.FieldType.object "java/math/BigDecimal")), Jvm.Cond.code ({ cls := "java/math/BigDecimal", name := "multiply", desc := "(JJ)J" } : Jvm.MethodName) jdk_17_method_156_code (10 : Nat) (Option.some Jvm.ClassFile.FieldType.long), Jvm.Cond.code ({ cls := "java/time/Duration", name := "create", desc := "(Ljava/math/BigDecimal;)Ljava/time/Duration;" } : Jvm.MethodName) jdk_2316_method_48_code (3 : Nat) (Option.some (Jvm.ClassFile.FieldType.object "java/time/Duration")), Jvm.Cond.code ({ cls := "java/math/BigDecimal", name := "movePointRight", desc := "(I)Ljava/math/BigDecimal;" } : Jvm.MethodName) jdk_17_method_67_code (4 : Nat) (Option.some (Jvm.ClassFile.FieldType.object "java/math/BigDecimal")), Jvm.Cond.code ({ cls := "java/math/BigDecimal", name := "toBigIntegerExact", desc := "()Ljava/math/BigInteger;" } : Jvm.MethodName) jdk_17_method_81_code (1 : Nat) (Option.some (Jvm.ClassFile.FieldType.object "java/math/BigInteger")), Jvm.Cond.code ({ cls := "java/math/BigDecimal", name := "setScale", desc := "(II)Ljava/math/BigDecimal;" } : Jvm.MethodName) jdk_17_method_64_code (8 : Nat) (Option.some (Jvm.ClassFile.FieldType.object "java/math/BigDecimal")), Jvm.Cond.code ({ cls := "java/math/BigDecimal", name := "inflated", desc := "()Ljava/math/BigInteger;" } : Jvm.MethodName) jdk_17_method_99_code (1 : Nat) (Option.some (Jvm.ClassFile.FieldType.object "java/math/BigInteger")), Jvm.Cond.code ({ cls := "java/math/BigInteger", name := "valueOf", desc := "(J)Ljava/math/BigInteger;" } : Jvm.MethodName) jdk_2097_method_29_code (2 : Nat) (Option.some (Jvm.ClassFile.FieldType.object "java/math/BigInteger")), Jvm.Cond.code ({ cls := "java/math/BigInteger", name := "<init>", desc := "(J)V" } : Jvm.MethodName) jdk_2097_method_30_code (4 : Nat) (Option.none : Option Jvm.ClassFile.FieldType), Jvm.Cond.code ({ cls := "java/math/BigInteger", name := "divideAndRemainder", desc := "(Ljava/math/BigInteger;)[Ljava/math/BigInteger;" } : Jvm.MethodName) jdk_2097_method_63_code (2 : Nat) (Option.some (Jvm.ClassFile.FieldType.array (Jvm.ClassFile.FieldType.object "java/math/BigInteger"))), Jvm.Cond.code ({ cls := "java/math/BigInteger", name := "divideAndRemainderKnuth", desc := "(Ljava/math/BigInteger;)[Ljava/math/BigInteger;" } : Jvm.MethodName) jdk_2097_method_64_code (7 : Nat) (Option.some (Jvm.ClassFile.FieldType.array (Jvm.ClassFile.FieldType.object "java/math/BigInteger"))), Jvm.Cond.code ({ cls := "java/math/MutableBigInteger", name := "<init>", desc := "()V" } : Jvm.MethodName) jdk_2101_method_1_code (1 : Nat) (Option.none : Option Jvm.ClassFile.FieldType), Jvm.Cond.code ({ cls := "java/math/MutableBigInteger", name := "<init>", desc := "([I)V" } : Jvm.MethodName) jdk_2101_method_3_code (2 : Nat) (Option.none : Option Jvm.ClassFile.FieldType), Jvm.Cond.code ({ cls := "java/math/MutableBigInteger", name := "divideKnuth", desc := "(Ljava/math/MutableBigInteger;Ljava/math/MutableBigInteger;)Ljava/math/MutableBigInteger;" } : Jvm.MethodName) jdk_2101_method_56_code (3 : Nat) (Option.some (Jvm.ClassFile.FieldType.object "java/math/MutableBigInteger")), Jvm.Cond.code ({ cls := "java/math/MutableBigInteger", name := "divideKnuth", desc := "(Ljava/math/MutableBigInteger;Ljava/math/MutableBigInteger;Z)Ljava/math/MutableBigInteger;" } : Jvm.MethodName) jdk_2101_method_57_code (8 : Nat) (Option.some (Jvm.ClassFile.FieldType.object "java/math/MutableBigInteger")), Jvm.Cond.code ({ cls := "java/math/MutableBigInteger", name := "compare", desc := "(Ljava/math/MutableBigInteger;)I" } : Jvm.MethodName) jdk_2101_method_15_code (8 : Nat) (Option.some Jvm.ClassFile.FieldType.int), Jvm.Cond.code ({ cls := "java/math/MutableBigInteger", name := "clear", desc := "()V" } : Jvm.MethodName) jdk_2101_method_13_code (3 : Nat) (Option.none : Option Jvm.ClassFile.FieldType), Jvm.Cond.code ({ cls := "java/math/MutableBigInteger", name := "divideOneWord", desc := "(ILjava/math/MutableBigInteger;)I" } : Jvm.MethodName) jdk_2101_method_53_code (15 : Nat) (Option.some Jvm.ClassFile.FieldType.int), Jvm.Cond.code ({ cls := "java/lang/Integer", name := "numberOfLeadingZeros", desc := "(I)I" } : Jvm.MethodName) jdk_33_method_47_code (2 : Nat) (Option.some Jvm.ClassFile.FieldType.int), Jvm.Cond.code ({ cls := "java/math/MutableBigInteger", name := "normalize", desc := "()V" } : Jvm.MethodName) jdk_2101_method_21_code (4 : Nat) (Option.none : Option Jvm.ClassFile.FieldType), Jvm.Cond.code ({ cls := "java/math/MutableBigInteger", name := "toBigInteger", desc := "(I)Ljava/math/BigInteger;" } : Jvm.MethodName) jdk_2101_method_9_code (2 : Nat) (Option.some (Jvm.ClassFile.FieldType.object "java/math/BigInteger")), Jvm.Cond.code ({ cls := "java/math/MutableBigInteger", name := "getMagnitudeArray", desc := "()[I" } : Jvm.MethodName) jdk_2101_method_7_code (2 : Nat) (Option.some (Jvm.ClassFile.FieldType.array Jvm.ClassFile.FieldType.int)), Jvm.Cond.code ({ cls := "java/util/Arrays", name := "copyOfRange", desc := "([III)[I" } : Jvm.MethodName) jdk_65_method_136_code (3 : Nat) (Option.some (Jvm.ClassFile.FieldType.array Jvm.ClassFile.FieldType.int)), Jvm.Cond.code ({ cls := "java/util/Arrays", name := "copyOfRangeInt", desc := "([III)[I" } : Jvm.MethodName) jdk_65_method_137_code (5 : Nat) (Option.some (Jvm.ClassFile.FieldType.array Jvm.ClassFile.FieldType.int)), Jvm.Cond.code ({ cls := "java/util/Arrays", name := "checkLength", desc := "(II)V" } : Jvm.MethodName) jdk_65_method_131_code (2 : Nat) (Option.none : Option Jvm.ClassFile.FieldType), Jvm.Cond.code ({ cls := "java/lang/Math", name := "min", desc := "(II)I" } : Jvm.MethodName) jdk_29_method_69_code (2 : Nat) (Option.some Jvm.ClassFile.FieldType.int), Jvm.Cond.code ({ cls := "java/util/Arrays", name := "fill", desc := "([II)V" } : Jvm.MethodName) jdk_65_method_103_code (4 : Nat) (Option.none : Option Jvm.ClassFile.FieldType), Jvm.Cond.code ({ cls := "java/math/BigInteger", name := "<init>", desc := "([II)V" } : Jvm.MethodName) jdk_2097_method_25_code (3 : Nat) (Option.none : Option Jvm.ClassFile.FieldType), Jvm.Cond.code ({ cls := "java/math/BigInteger", name := "bitLength", desc := "()I" } : Jvm.MethodName) jdk_2097_method_118_code (7 : Nat) (Option.some Jvm.ClassFile.FieldType.int), Jvm.Cond.code ({ cls := "java/math/BigInteger", name := "bitLengthForInt", desc := "(I)I" } : Jvm.MethodName) jdk_2097_method_74_code (1 : Nat) (Option.some Jvm.ClassFile.FieldType.int), Jvm.Cond.code ({ cls := "java/math/BigInteger", name := "longValue", desc := "()J" } : Jvm.MethodName) jdk_2097_method_136_code (4 : Nat) (Option.some Jvm.ClassFile.FieldType.long), Jvm.Cond.code ({ cls := "java/math/BigInteger", name := "getInt", desc := "(I)I" } : Jvm.MethodName) jdk_2097_method_148_code (3 : Nat) (Option.some Jvm.ClassFile.FieldType.int), Jvm.Cond.code ({ cls := "java/math/BigInteger", name := "signInt", desc := "()I" } : Jvm.MethodName) jdk_2097_method_147_code (1 : Nat) (Option.some Jvm.ClassFile.FieldType.int), Jvm.Cond.code ({ cls := "java/math/BigInteger", name := "intValue", desc := "()I" } : Jvm.MethodName) jdk_2097_method_135_code (2 : Nat) (Option.some Jvm.ClassFile.FieldType.int), Jvm.Cond.code ({ cls := "java/time/Duration", name := "ofSeconds", desc := "(JJ)Ljava/time/Duration;" } : Jvm.MethodName) jdk_2316_method_5_code (7 : Nat) (Option.some (Jvm.ClassFile.FieldType.object "java/time/Duration")), Jvm.Cond.code ({ cls := "java/lang/Math", name := "floorDiv", desc := "(JJ)J" } : Jvm.MethodName) jdk_29_method_49_code (6 : Nat) (Option.some Jvm.ClassFile.FieldType.long), Jvm.Cond.code ({ cls := "java/lang/Math", name := "addExact", desc := "(JJ)J" } : Jvm.MethodName) jdk_29_method_25_code (6 : Nat) (Option.some Jvm.ClassFile.FieldType.long), Jvm.Cond.code ({ cls := "java/lang/Math", name := "floorMod", desc := "(JJ)J" } : Jvm.MethodName) jdk_29_method_52_code (6 : Nat) (Option.some Jvm.ClassFile.FieldType.long), Jvm.Cond.code ({ cls := "java/time/Duration", name := "create", desc := "(JI)Ljava/time/Duration;" } : Jvm.MethodName) jdk_2316_method_16_code (3 : Nat) (Option.some (Jvm.ClassFile.FieldType.object "java/time/Duration")), Jvm.Cond.code ({ cls := "java/time/Duration", name := "<init>", desc := "(JI)V" } : Jvm.MethodName) jdk_2316_method_17_code (4 : Nat) (Option.none : Option Jvm.ClassFile.FieldType), Jvm.Cond.code ({ cls := "java/math/BigInteger", name := "multiply", desc := "(J)Ljava/math/BigInteger;" } : Jvm.MethodName) jdk_2097_method_44_code (17 : Nat) (Option.some (Jvm.ClassFile.FieldType.object "java/math/BigInteger"))]
set_option maxRecDepth 65536 in
theorem codes_eq : words1.filter isCode = codes1 := rfl
theorem w_codes : ∀ c ∈ words1.filter isCode, c.before args0 about1 = true := by
  rw [codes_eq]
  intro c hc
  simp only [codes1, List.mem_cons, List.not_mem_nil, or_false] at hc
  rcases hc with rfl | rfl | rfl | rfl | rfl | rfl | rfl | rfl | rfl | rfl | rfl | rfl | rfl | rfl | rfl | rfl | rfl | rfl | rfl | rfl | rfl | rfl | rfl | rfl | rfl | rfl | rfl | rfl | rfl | rfl | rfl | rfl | rfl | rfl | rfl | rfl | rfl | rfl | rfl | rfl | rfl | rfl | rfl | rfl | rfl | rfl | rfl | rfl | rfl | rfl | rfl | rfl | rfl | rfl | rfl | rfl | rfl | rfl | rfl | rfl | rfl | rfl
  · exact w_c0
  · exact w_c1
  · exact w_c2
  · exact w_c3
  · exact w_c4
  · exact w_c5
  · exact w_c6
  · exact w_c7
  · exact w_c8
  · exact w_c9
  · exact w_c10
  · exact w_c11
  · exact w_c12
  · exact w_c13
  · exact w_c14
  · exact w_c15
  · exact w_c16
  · exact w_c17
  · exact w_c18
  · exact w_c19
  · exact w_c20
  · exact w_c21
  · exact w_c22
  · exact w_c23
  · exact w_c24
  · exact w_c25
  · exact w_c26
  · exact w_c27
  · exact w_c28
  · exact w_c29
  · exact w_c30
  · exact w_c31
  · exact w_c32
  · exact w_c33
  · exact w_c34
  · exact w_c35
  · exact w_c36
  · exact w_c37
  · exact w_c38
  · exact w_c39
  · exact w_c40
  · exact w_c41
  · exact w_c42
  · exact w_c43
  · exact w_c44
  · exact w_c45
  · exact w_c46
  · exact w_c47
  · exact w_c48
  · exact w_c49
  · exact w_c50
  · exact w_c51
  · exact w_c52
  · exact w_c53
  · exact w_c54
  · exact w_c55
  · exact w_c56
  · exact w_c57
  · exact w_c58
  · exact w_c59
  · exact w_c60
  · exact w_c61
set_option maxRecDepth 65536 in
theorem w_t1 : (words1.take 24).all (fun c => isCode c || c.before args0 about1) = true := by decide +kernel
set_option maxRecDepth 65536 in
theorem w_t2 : ((words1.drop 24).take 24).all (fun c => isCode c || c.before args0 about1) = true := by decide +kernel
set_option maxRecDepth 65536 in
theorem w_t3 : (((words1.drop 24).drop 24).take 24).all (fun c => isCode c || c.before args0 about1) = true := by decide +kernel
set_option maxRecDepth 65536 in
theorem w_t4 : ((((words1.drop 24).drop 24).drop 24).take 24).all (fun c => isCode c || c.before args0 about1) = true := by decide +kernel
set_option maxRecDepth 65536 in
theorem w_t5 : (((((words1.drop 24).drop 24).drop 24).drop 24).take 24).all (fun c => isCode c || c.before args0 about1) = true := by decide +kernel
set_option maxRecDepth 65536 in
theorem w_t6 : ((((((words1.drop 24).drop 24).drop 24).drop 24).drop 24).take 24).all (fun c => isCode c || c.before args0 about1) = true := by decide +kernel
set_option maxRecDepth 65536 in
theorem w_t7 : (((((((words1.drop 24).drop 24).drop 24).drop 24).drop 24).drop 24).take 24).all (fun c => isCode c || c.before args0 about1) = true := by decide +kernel
set_option maxRecDepth 65536 in
theorem w_t8 : ((((((((words1.drop 24).drop 24).drop 24).drop 24).drop 24).drop 24).drop 24).take 24).all (fun c => isCode c || c.before args0 about1) = true := by decide +kernel
set_option maxRecDepth 65536 in
theorem w_t9 : (((((((((words1.drop 24).drop 24).drop 24).drop 24).drop 24).drop 24).drop 24).drop 24).take 24).all (fun c => isCode c || c.before args0 about1) = true := by decide +kernel
set_option maxRecDepth 65536 in
theorem w_t10 : ((((((((((words1.drop 24).drop 24).drop 24).drop 24).drop 24).drop 24).drop 24).drop 24).drop 24).take 24).all (fun c => isCode c || c.before args0 about1) = true := by decide +kernel
set_option maxRecDepth 65536 in
theorem w_t11 : (((((((((((words1.drop 24).drop 24).drop 24).drop 24).drop 24).drop 24).drop 24).drop 24).drop 24).drop 24).take 24).all (fun c => isCode c || c.before args0 about1) = true := by decide +kernel
set_option maxRecDepth 65536 in
theorem w_t12 : ((((((((((((words1.drop 24).drop 24).drop 24).drop 24).drop 24).drop 24).drop 24).drop 24).drop 24).drop 24).drop 24).take 24).all (fun c => isCode c || c.before args0 about1) = true := by decide +kernel
set_option maxRecDepth 65536 in
theorem w_t13 : (((((((((((((words1.drop 24).drop 24).drop 24).drop 24).drop 24).drop 24).drop 24).drop 24).drop 24).drop 24).drop 24).drop 24).take 24).all (fun c => isCode c || c.before args0 about1) = true := by decide +kernel
set_option maxRecDepth 65536 in
theorem w_t14 : (((((((((((((words1.drop 24).drop 24).drop 24).drop 24).drop 24).drop 24).drop 24).drop 24).drop 24).drop 24).drop 24).drop 24).drop 24).all (fun c => isCode c || c.before args0 about1) = true := by decide +kernel
theorem w_tables : (allAtoms (Jvm.Cond.code x code maxLocals ret :: tables_1)).before args0 about1 = true := by
  rw [allAtoms_all]
  show words1.all (fun c => c.before args0 about1) = true
  refine all_split ?_ w_codes
  rw [← List.take_append_drop 24 words1, List.all_append, w_t1, ← List.take_append_drop 24 (words1.drop 24), List.all_append, w_t2, ← List.take_append_drop 24 ((words1.drop 24).drop 24), List.all_append, w_t3, ← List.take_append_drop 24 (((words1.drop 24).drop 24).drop 24), List.all_append, w_t4, ← List.take_append_drop 24 ((((words1.drop 24).drop 24).drop 24).drop 24), List.all_append, w_t5, ← List.take_append_drop 24 (((((words1.drop 24).drop 24).drop 24).drop 24).drop 24), List.all_append, w_t6, ← List.take_append_drop 24 ((((((words1.drop 24).drop 24).drop 24).drop 24).drop 24).drop 24), List.all_append, w_t7, ← List.take_append_drop 24 (((((((words1.drop 24).drop 24).drop 24).drop 24).drop 24).drop 24).drop 24), List.all_append, w_t8, ← List.take_append_drop 24 ((((((((words1.drop 24).drop 24).drop 24).drop 24).drop 24).drop 24).drop 24).drop 24), List.all_append, w_t9, ← List.take_append_drop 24 (((((((((words1.drop 24).drop 24).drop 24).drop 24).drop 24).drop 24).drop 24).drop 24).drop 24), List.all_append, w_t10, ← List.take_append_drop 24 ((((((((((words1.drop 24).drop 24).drop 24).drop 24).drop 24).drop 24).drop 24).drop 24).drop 24).drop 24), List.all_append, w_t11, ← List.take_append_drop 24 (((((((((((words1.drop 24).drop 24).drop 24).drop 24).drop 24).drop 24).drop 24).drop 24).drop 24).drop 24).drop 24), List.all_append, w_t12, ← List.take_append_drop 24 ((((((((((((words1.drop 24).drop 24).drop 24).drop 24).drop 24).drop 24).drop 24).drop 24).drop 24).drop 24).drop 24).drop 24), List.all_append, w_t13, w_t14]
  rfl
set_option maxRecDepth 65536 in
theorem w_rest : rest_1_c.before args0 about1 = true := by decide +kernel
set_option maxRecDepth 65536 in
theorem w_case : (Jvm.Cond.and given_1 narrow_1).before args0 about1 = true := by decide +kernel
theorem w_applies : (headSpec (Jvm.Cond.code x code maxLocals ret :: tables_1) room_1).applies x e0.platform about1 = true :=
  (Spec.applies_iff w_frames).mpr ⟨w_running, w_runnable, w_alone, w_named, w_hears, w_ripe, w_room, w_tables⟩
theorem atStart : AtStart classFile x code maxLocals ret World_1 tables_1 room_1 Calls_1 rest_1 Pre_1 launch0 p0 e0 about1 theMethod args0 below0 :=
  ⟨lists_1, trivial, launch0.admits_env _ _ _, launch0.least_env, fairChoices_fair.cas, fairChoices_fair.clock, w_frames, w_args, w_heap, w_applies, trivial, w_rest, w_case⟩
end start1
theorem witness_1 : WitnessClaimed_1 := ⟨start1.p0, start1.e0, start1.about1, start1.theMethod, start1.args0, start1.below0, start1.atStart⟩
end Jvm.Pilot.@@N@@
