import JvmDerived
import JvmDerived.Pilot.@@N@@Statement
import JvmDerived.Pilot.@@N@@Code
set_option linter.unusedVariables false
set_option linter.unusedSimpArgs false
namespace Jvm.Pilot.@@N@@
open Jvm Jvm.ClassFile Sem Op Lib Jvm.Free Jvm.Stand Jvm.LawKit Jvm.RoadKit Bundle Jvm.Pilot.@@N@@.Jvm.D
/-! own_kit: a walk as 'what is left to do' (Go), contracts (Con), calls and returns in that form -/
/-- from F the run comes to an end of which P holds -/
def Go (tb : Tables) (e : Env) (below : List Frame) (P : Outcome → State → Prop) (F : State) : Prop :=
  ∃ s₂ o, Steps tb e below F s₂ ∧ s₂.status = .running ∧ Ended s₂ below o ∧ P o s₂
theorem Go.step {tb : Tables} {e : Env} {below : List Frame} {P : Outcome → State → Prop} {A B : State} (h : ∀ t, Steps tb e below B t → Steps tb e below A t) (k : Go tb e below P B) : Go tb e below P A := by
  obtain ⟨s₂, o, h1, h2, h3, h4⟩ := k
  exact ⟨s₂, o, h _ h1, h2, h3, h4⟩
theorem Go.via {tb : Tables} {e : Env} {below : List Frame} {P : Outcome → State → Prop} {A B : State} (h : Steps tb e below A B) (k : Go tb e below P B) : Go tb e below P A :=
  Go.step (fun t q => h.trans q) k
/-- how a walk ends: it returns v, Q holds of v, the heap and the places written; at most C cells and S slots were made -/
def EndsAs (s : State) (C S : Nat) (Q : Option Value → Heap → List Loc → Prop) (o : Outcome) (U : State) : Prop :=
  ∃ v L, o = .returned v ∧ Q v U.heap L ∧ FrameEnd s o U L C S
/-- the contract of a body at arguments 'as' and heap h0 -/
abbrev Con (l : Launch) (Z : State) (y : MethodName) (bytes : ByteArray) (mx : Nat) (ret : Option FieldType) (ws : List Jvm.Cond) (rm : Room) (as : Array Value) (h0 : Heap) (Q : Option Value → Heap → List Loc → Prop) : Prop :=
  MetFree l y (head1 (Jvm.Cond.code y bytes mx ret :: ws) rm) (fun a U => a = as ∧ Z.Warmed39 U.vm ∧ U.heap = h0) (fun _ _ _ _ _ => True) (fun _ U o U' => ∃ v L, o = .returned v ∧ Q v U'.heap L ∧ FrameEnd U o U' L rm.cells rm.slots)
theorem Con.of {l : Launch} {Z : State} {y : MethodName} {bytes : ByteArray} {mx : Nat} {ret : Option FieldType} {ws : List Jvm.Cond} {rm : Room} {as : Array Value} {h0 : Heap} {Q : Option Value → Heap → List Loc → Prop} (hpl : plainFor y = true)
    (body : ∀ (p : Program) (e : Env) (s : State) (m : MethodId) (below : List Frame) (meth : Method) (c : Code) (s₁ : State), Z.Warmed39 s.vm → p.tables.exec = Jvm.exec → c.code = bytes → c.maxLocals = mx → s.vm.findClass y.cls = some m.cls → meth.sig.returnType = ret → meth.locks = false → meth.name = y.name →
      Stand p l e rm s m as below meth c s₁ [] 0 0 → s₁.heap = h0 → Go p.tables e below (EndsAs s rm.cells rm.slots Q) (s₁.setTop (entryFrame m as mx))) :
    Con l Z y bytes mx ret ws rm as h0 Q := by
  refine MetFree.of_bodySF hpl hisR ?_
  intro p e s m args below meth c s₁ Bd hml0 hP hK
  obtain ⟨rfl, hZ, hh⟩ := hP
  exact body p e s m below meth c s₁ hZ Bd.exec Bd.bytes hml0 (findClass_of_methodNamed Bd.named) Bd.returns Bd.notSynchronized (name_of_methodNamed Bd.named Bd.method).1 (Stand.of_body Bd) (by rw [← hh, Bd.state]; rfl)
section Kit
variable {p : Program} {l : Launch} {e : Env} {R : Room} {s : State} {m : MethodId} {args : Array Value} {below : List Frame} {meth : Method} {c : Code} {T : State} {locs : List Loc} {cells slots : Nat} {Z : State} {a0 : Array Value} {h : Heap}
theorem leafO (X : Stand p l e R s m args below meth c T locs cells slots) (hx : p.tables.exec = Jvm.exec) {t : FieldType} (hret : meth.sig.returnType = some t) (hlk : meth.locks = false) {pc : Nat} {Ls : Array Slot} {w : Value} {i : Instr} {rest : List Value} (hn : narrow t w = w)
    (hi : (i = .ireturn ∧ (t = .int ∨ t = .boolean ∨ t = .byte ∨ t = .char ∨ t = .short) ∧ ∃ z, w = .int z) ∨ (i = .lreturn ∧ t = .long ∧ ∃ z, w = .long z) ∨ (i = .dreturn ∧ t = .double ∧ ∃ z, w = .double z) ∨ (i = .freturn ∧ t = .float ∧ ∃ z, w = .float z) ∨ (i = .areturn ∧ t.isReference = true ∧ w.isRef = true))
    (hd : decode c.code pc = .ok (i, 1)) {Q : Option Value → Heap → List Loc → Prop} {C S : Nat} (hQ : Q (some w) T.heap locs) (hC : cells ≤ C) (hS : slots ≤ S) :
    Go p.tables e below (EndsAs s C S Q) (T.setTop (mkF m pc Ls (w :: rest))) := by
  obtain ⟨fs, hr, hrun, hended, hW, hsame⟩ := X.leave (v := some w) (fun h => by rw [hret] at h; cases h) hlk
  exact ⟨_, _, retOut X hx hret hn hi hd hr, hrun, hended, _, _, rfl, hQ, ⟨_, rfl⟩, hW, hsame.mono hC hS⟩
theorem leafI (X : Stand p l e R s m args below meth c T locs cells slots) (hx : p.tables.exec = Jvm.exec) (hret : meth.sig.returnType = some .int) (hlk : meth.locks = false) {pc : Nat} {Ls : Array Slot} {z : Int32} {rest : List Value}
    (hd : decode c.code pc = .ok (.ireturn, 1)) {Q : Option Value → Heap → List Loc → Prop} {C S : Nat} (hQ : Q (some (.int z)) T.heap locs) (hC : cells ≤ C) (hS : slots ≤ S) :
    Go p.tables e below (EndsAs s C S Q) (T.setTop (mkF m pc Ls (.int z :: rest))) :=
  leafO X hx hret hlk rfl (Or.inl ⟨rfl, Or.inl rfl, _, rfl⟩) hd hQ hC hS
theorem leafJ (X : Stand p l e R s m args below meth c T locs cells slots) (hx : p.tables.exec = Jvm.exec) (hret : meth.sig.returnType = some .long) (hlk : meth.locks = false) {pc : Nat} {Ls : Array Slot} {z : Int64} {rest : List Value}
    (hd : decode c.code pc = .ok (.lreturn, 1)) {Q : Option Value → Heap → List Loc → Prop} {C S : Nat} (hQ : Q (some (.long z)) T.heap locs) (hC : cells ≤ C) (hS : slots ≤ S) :
    Go p.tables e below (EndsAs s C S Q) (T.setTop (mkF m pc Ls (.long z :: rest))) :=
  leafO X hx hret hlk rfl (Or.inr (Or.inl ⟨rfl, rfl, _, rfl⟩)) hd hQ hC hS
theorem leafA (X : Stand p l e R s m args below meth c T locs cells slots) (hx : p.tables.exec = Jvm.exec) {t : FieldType} (hret : meth.sig.returnType = some t) (ht : t.isReference = true) (hlk : meth.locks = false) {pc : Nat} {Ls : Array Slot} {w : Value} {rest : List Value} (hw : w.isRef = true) (hn : narrow t w = w)
    (hd : decode c.code pc = .ok (.areturn, 1)) {Q : Option Value → Heap → List Loc → Prop} {C S : Nat} (hQ : Q (some w) T.heap locs) (hC : cells ≤ C) (hS : slots ≤ S) :
    Go p.tables e below (EndsAs s C S Q) (T.setTop (mkF m pc Ls (w :: rest))) :=
  leafO X hx hret hlk hn (Or.inr (Or.inr (Or.inr (Or.inr ⟨rfl, ht, hw⟩)))) hd hQ hC hS
theorem leafN (X : Stand p l e R s m args below meth c T locs cells slots) (hx : p.tables.exec = Jvm.exec) {t : FieldType} (hret : meth.sig.returnType = some t) (ht : t = .boolean ∨ t = .byte ∨ t = .char ∨ t = .short) (hlk : meth.locks = false) {pc : Nat} {Ls : Array Slot} {z w : Int32} {rest : List Value} (hw : nar t z = w)
    (hd : decode c.code pc = .ok (.ireturn, 1)) {Q : Option Value → Heap → List Loc → Prop} {C S : Nat} (hQ : Q (some (.int w)) T.heap locs) (hC : cells ≤ C) (hS : slots ≤ S) :
    Go p.tables e below (EndsAs s C S Q) (T.setTop (mkF m pc Ls (.int z :: rest))) := by
  subst hw
  obtain ⟨fs, hr, hrun, hended, hW, hsame⟩ := X.leave (v := some (.int (nar t z))) (fun h => by rw [hret] at h; cases h) hlk
  exact ⟨_, _, retN X hx hret ht hd hr, hrun, hended, _, _, rfl, hQ, ⟨_, rfl⟩, hW, hsame.mono hC hS⟩
theorem leafV (X : Stand p l e R s m args below meth c T locs cells slots) (hx : p.tables.exec = Jvm.exec) (hret : meth.sig.returnType = none) (hlk : meth.locks = false) {pc : Nat} {Ls : Array Slot}
    (hd : decode c.code pc = .ok (.return_, 1)) {Q : Option Value → Heap → List Loc → Prop} {C S : Nat} (hQ : Q none T.heap locs) (hC : cells ≤ C) (hS : slots ≤ S) :
    Go p.tables e below (EndsAs s C S Q) (T.setTop (mkF m pc Ls [])) := by
  obtain ⟨fs, hr, hrun, hended, hW, hsame⟩ := X.leave (v := none) (fun _ => rfl) hlk
  exact ⟨_, _, X.returnOut hx hret hd hr, hrun, hended, _, _, rfl, hQ, ⟨_, rfl⟩, hW, hsame.mono hC hS⟩
theorem goS (X : Stand p l e R s m args below meth c T locs cells slots) (hx : p.tables.exec = Jvm.exec) (hZ : Z.Warmed39 s.vm) {own : String} {index : Nat} {y : MethodName} {bytes : ByteArray} {maxL : Nat} {ret : Option FieldType} (hown : s.vm.findClass own = some m.cls)
    (w1 : (Jvm.Cond.methodLink own index y).before a0 Z = true) (w2 : (Jvm.Cond.static y).before a0 Z = true) (w3 : (Jvm.Cond.initialized y.cls).before a0 Z = true) (w4 : (Jvm.Cond.code y bytes maxL ret).before a0 Z = true)
    (hy : y.cls ≠ "java/lang/invoke/MethodHandle" ∧ y.cls ≠ "java/lang/invoke/VarHandle") {rm : Room} {as : Array Value} {Qc : Option Value → Heap → List Loc → Prop} (hM : Con l Z y bytes maxL ret [] rm as h Qc) (eT : T.heap = h)
    {pc : Nat} {Ls : Array Slot} {st : List Value} (hsize : Ls.size = c.maxLocals) (argsL rest : List Value) (has : argsL.toArray = as) {ps : List FieldType} {r : Option FieldType} (hpd : parseMethodDescriptor y.desc = some ⟨ps, r⟩) (hlen : argsL.length = ps.length) (hst : st = argsL.reverse ++ rest)
    (W : Nat) (hW : (rest.map fun v => v.category).sum = W) (hd : decode c.code pc = .ok (.invokestatic index, 3)) (hf : rm.frames + 1 ≤ R.frames) (hl : W + (maxL + 11) + rm.locals ≤ R.locals) (hc : cells + rm.cells ≤ R.cells) (hs : slots + rm.slots ≤ R.slots) {P : Outcome → State → Prop}
    (k : ∀ (T' : State) (L : List Loc) (v : Option Value), Qc v T'.heap L → Stand p l e R s m args below meth c T' (locs ++ L) (cells + rm.cells) (slots + rm.slots) → Go p.tables e below P (T'.setTop (mkF m (pc + 3) Ls (v.toList ++ rest)))) :
    Go p.tables e below P (T.setTop (mkF m pc Ls st)) := by
  subst hst
  obtain ⟨v, _, ⟨T', L', k', n'⟩, -, X', ⟨L, hQ, q1, q2, q3⟩, st⟩ := Jvm.LawKit.callS X hx (y := y) hown (mvT hZ w1) (mvT hZ w2) (mvT hZ w3) (mvT hZ w4) hy (backOf (W := W) hM hZ w4 w3 hf hl) (g := mkF m pc Ls (argsL.reverse ++ rest)) rfl hsize (argsL := argsL) (rest := rest) (lenOf hpd hlen) rfl (by show 2 * 0 + _ ≤ _; omega) hd (fun _ _ => ⟨has, eT, hc, hs⟩)
  dsimp only [Pt.U, Pt.locs, Pt.cells, Pt.slots] at X' q1 q2 q3 st hQ
  subst q1 q2 q3
  exact Go.step st (k T' L v hQ X')
theorem goI (X : Stand p l e R s m args below meth c T locs cells slots) (hx : p.tables.exec = Jvm.exec) (hZ : Z.Warmed39 s.vm) {own : String} {index : Nat} {y : MethodName} {bytes : ByteArray} {maxL : Nat} (hy1 : y.name = "<init>") (hown : s.vm.findClass own = some m.cls)
    (w1 : (Jvm.Cond.methodLink own index y).before a0 Z = true) (w2 : (Jvm.Cond.instanceMethod y).before a0 Z = true) (w3 : (Jvm.Cond.initialized y.cls).before a0 Z = true) (w4 : (Jvm.Cond.code y bytes maxL none).before a0 Z = true)
    (hy : y.cls ≠ "java/lang/invoke/MethodHandle" ∧ y.cls ≠ "java/lang/invoke/VarHandle") {rm : Room} {as : Array Value} {Qc : Option Value → Heap → List Loc → Prop} (hM : Con l Z y bytes maxL none [] rm as h Qc) (eT : T.heap = h)
    {pc : Nat} {Ls : Array Slot} {st : List Value} (hsize : Ls.size = c.maxLocals) (a : Addr) (argsL rest : List Value) (has : (Value.ref a :: argsL).toArray = as) {ps : List FieldType} {r : Option FieldType} (hpd : parseMethodDescriptor y.desc = some ⟨ps, r⟩) (hlen : argsL.length = ps.length) (hst : st = argsL.reverse ++ .ref a :: rest)
    (W : Nat) (hW : (rest.map fun v => v.category).sum = W) (hd : decode c.code pc = .ok (.invokespecial index, 3)) (hf : rm.frames + 1 ≤ R.frames) (hl : W + (maxL + 11) + rm.locals ≤ R.locals) (hc : cells + rm.cells ≤ R.cells) (hs : slots + rm.slots ≤ R.slots) {P : Outcome → State → Prop}
    (k : ∀ (T' : State) (L : List Loc) (v : Option Value), Qc v T'.heap L → Stand p l e R s m args below meth c T' (locs ++ L) (cells + rm.cells) (slots + rm.slots) → Go p.tables e below P (T'.setTop (mkF m (pc + 3) Ls (v.toList ++ rest)))) :
    Go p.tables e below P (T.setTop (mkF m pc Ls st)) := by
  subst hst
  obtain ⟨v, _, ⟨T', L', k', n'⟩, -, X', ⟨L, hQ, q1, q2, q3⟩, st⟩ := X.specialBack hx (y := y) hy1 hown (mvT hZ w1) (mvT hZ w2) (mvT hZ w4) hy (backOf (W := W) hM hZ w4 w3 hf hl) (g := mkF m pc Ls (argsL.reverse ++ .ref a :: rest)) rfl hsize (Steps.refl _) (a := a) (argsL := argsL) (rest := rest) (lenOf hpd hlen) rfl (by show 2 * 0 + _ ≤ _; omega) hd (fun _ _ => ⟨has, eT, hc, hs⟩)
  dsimp only [Pt.U, Pt.locs, Pt.cells, Pt.slots] at X' q1 q2 q3 st hQ
  subst q1 q2 q3
  exact Go.via st (k T' L v hQ X')
theorem goV (X : Stand p l e R s m args below meth c T locs cells slots) (hx : p.tables.exec = Jvm.exec) (hZ : Z.Warmed39 s.vm) {own C : String} {index : Nat} {y z : MethodName} {bytes : ByteArray} {maxL : Nat} {ret : Option FieldType} (hown : s.vm.findClass own = some m.cls)
    (w1 : (Jvm.Cond.methodLink own index y).before a0 Z = true) (w2 : (Jvm.Cond.declares y).before a0 Z = true) (hnf : NotFace s y) (w5 : (Jvm.Cond.selects C y z).before a0 Z = true) (w6 : (Jvm.Cond.instanceMethod z).before a0 Z = true) (w3 : (Jvm.Cond.initialized z.cls).before a0 Z = true) (w4 : (Jvm.Cond.code z bytes maxL ret).before a0 Z = true)
    (hy : y.cls ≠ "java/lang/invoke/MethodHandle" ∧ y.cls ≠ "java/lang/invoke/VarHandle") {rm : Room} {as : Array Value} {Qc : Option Value → Heap → List Loc → Prop} (hM : Con l Z z bytes maxL ret [] rm as h Qc) (eT : T.heap = h)
    {a : Addr} (E : Exa Z h a C) {pc : Nat} {Ls : Array Slot} {st : List Value} (hsize : Ls.size = c.maxLocals) (argsL rest : List Value) (has : (Value.ref a :: argsL).toArray = as) {ps : List FieldType} {r : Option FieldType} (hpd : parseMethodDescriptor y.desc = some ⟨ps, r⟩) (hlen : argsL.length = ps.length) (hst : st = argsL.reverse ++ .ref a :: rest)
    (W : Nat) (hW : (rest.map fun v => v.category).sum = W) (hd : decode c.code pc = .ok (.invokevirtual index, 3)) (hf : rm.frames + 1 ≤ R.frames) (hl : W + (maxL + 11) + rm.locals ≤ R.locals) (hc : cells + rm.cells ≤ R.cells) (hs : slots + rm.slots ≤ R.slots) {P : Outcome → State → Prop}
    (k : ∀ (T' : State) (L : List Loc) (v : Option Value), Qc v T'.heap L → Stand p l e R s m args below meth c T' (locs ++ L) (cells + rm.cells) (slots + rm.slots) → Go p.tables e below P (T'.setTop (mkF m (pc + 3) Ls (v.toList ++ rest)))) :
    Go p.tables e below P (T.setTop (mkF m pc Ls st)) := by
  subst hst
  obtain ⟨cq, kq, qa, qb, qc⟩ := isOf hZ eT E
  obtain ⟨v, _, ⟨T', L', k', n'⟩, -, X', ⟨L, hQ, q1, q2, q3⟩, st⟩ := X.virtualBack hx (y := y) (z := z) hown (mvT hZ w1) (mvT hZ w2) hnf (mvT hZ w5) (mvT hZ w6) hy (backOf (W := W) hM hZ w4 w3 hf hl) qa qc (g := mkF m pc Ls (argsL.reverse ++ .ref a :: rest)) rfl hsize (Steps.refl _) (argsL := argsL) (rest := rest) (lenOf hpd hlen) rfl (by show 2 * 0 + _ ≤ _; omega) hd (fun _ _ => ⟨has, eT, hc, hs⟩)
  dsimp only [Pt.U, Pt.locs, Pt.cells, Pt.slots] at X' q1 q2 q3 st hQ
  subst q1 q2 q3
  exact Go.via st (k T' L v hQ X')
end Kit
/-! own_kit, wide: String constants may be loaded -/
def EndsW (s : State) (C S : Nat) (Q : Option Value → Heap → List Loc → Prop) (o : Outcome) (U : State) : Prop :=
  ∃ v L, o = .returned v ∧ Q v U.heap L ∧ ReturnedEndW s o U L C S
abbrev ConW (l : Launch) (Z : State) (y : MethodName) (bytes : ByteArray) (mx : Nat) (ret : Option FieldType) (ws : List Jvm.Cond) (rm : Room) (as : Array Value) (h0 : Heap) (Q : Option Value → Heap → List Loc → Prop) : Prop :=
  MetFree l y (head1 (Jvm.Cond.code y bytes mx ret :: ws) rm) (fun a U => a = as ∧ Z.Warmed39 U.vm ∧ U.heap = h0) (fun _ _ _ _ _ => True) (fun _ U o U' => ∃ v L, o = .returned v ∧ Q v U'.heap L ∧ ReturnedEndW U o U' L rm.cells rm.slots)
theorem ConW.of {l : Launch} {Z : State} {y : MethodName} {bytes : ByteArray} {mx : Nat} {ret : Option FieldType} {ws : List Jvm.Cond} {rm : Room} {as : Array Value} {h0 : Heap} {Q : Option Value → Heap → List Loc → Prop} (hpl : plainFor y = true)
    (body : ∀ (p : Program) (e : Env) (s : State) (m : MethodId) (below : List Frame) (meth : Method) (c : Code) (s₁ : State), Z.Warmed39 s.vm → p.tables.exec = Jvm.exec → c.code = bytes → c.maxLocals = mx → s.vm.findClass y.cls = some m.cls → meth.sig.returnType = ret → meth.locks = false → meth.name = y.name →
      Stand p l e rm (s.setVm s.vm) m as below meth c s₁ [] 0 0 → s₁.heap = h0 → s.heap = h0 → s.Since s.vm h0.size → Go p.tables e below (EndsW s rm.cells rm.slots Q) (s₁.setTop (entryFrame m as mx))) :
    ConW l Z y bytes mx ret ws rm as h0 Q := by
  refine MetFree.of_bodySF hpl hisR ?_
  intro p e s m args below meth c s₁ Bd hml0 hP hK
  obtain ⟨rfl, hZ, hh⟩ := hP
  exact body p e s m below meth c s₁ hZ Bd.exec Bd.bytes hml0 (findClass_of_methodNamed Bd.named) Bd.returns Bd.notSynchronized (name_of_methodNamed Bd.named Bd.method).1 (Stand.of_body Bd) (by rw [← hh, Bd.state]; rfl) hh ((State.WarmedH.refl s).since _)
section KitW
variable {p : Program} {l : Launch} {e : Env} {R : Room} {s : State} {vm0 : Vm} {m : MethodId} {args : Array Value} {below : List Frame} {meth : Method} {c : Code} {T : State} {locs : List Loc} {cells slots : Nat} {Z : State} {a0 : Array Value} {h : Heap} {k0 : Nat}
theorem leafOW (X : Stand p l e R (s.setVm vm0) m args below meth c T locs cells slots) (hS : s.Since vm0 k0) (hk : k0 ≤ T.heap.size) (hx : p.tables.exec = Jvm.exec) {t : FieldType} (hret : meth.sig.returnType = some t) (hlk : meth.locks = false) {pc : Nat} {Ls : Array Slot} {w : Value} {i : Instr} {rest : List Value} (hn : narrow t w = w)
    (hi : (i = .ireturn ∧ (t = .int ∨ t = .boolean ∨ t = .byte ∨ t = .char ∨ t = .short) ∧ ∃ z, w = .int z) ∨ (i = .lreturn ∧ t = .long ∧ ∃ z, w = .long z) ∨ (i = .dreturn ∧ t = .double ∧ ∃ z, w = .double z) ∨ (i = .freturn ∧ t = .float ∧ ∃ z, w = .float z) ∨ (i = .areturn ∧ t.isReference = true ∧ w.isRef = true))
    (hd : decode c.code pc = .ok (i, 1)) {Q : Option Value → Heap → List Loc → Prop} {C S : Nat} (hQ : Q (some w) T.heap locs) (hC : cells ≤ C) (hSl : slots ≤ S) :
    Go p.tables e below (EndsW s C S Q) (T.setTop (mkF m pc Ls (w :: rest))) := by
  obtain ⟨fs, hr, hrun, hended, hE⟩ := X.leaveW hS hk (v := some w) (fun h => by rw [hret] at h; cases h) hlk
  exact ⟨_, _, retOut X hx hret hn hi hd hr, hrun, hended, _, _, rfl, hQ, hE.1, hE.2.1, hE.2.2.1, hE.2.2.2.mono hC hSl⟩
theorem leafAW (X : Stand p l e R (s.setVm vm0) m args below meth c T locs cells slots) (hS : s.Since vm0 k0) (hk : k0 ≤ T.heap.size) (hx : p.tables.exec = Jvm.exec) {t : FieldType} (hret : meth.sig.returnType = some t) (ht : t.isReference = true) (hlk : meth.locks = false) {pc : Nat} {Ls : Array Slot} {w : Value} {rest : List Value} (hw : w.isRef = true) (hn : narrow t w = w)
    (hd : decode c.code pc = .ok (.areturn, 1)) {Q : Option Value → Heap → List Loc → Prop} {C S : Nat} (hQ : Q (some w) T.heap locs) (hC : cells ≤ C) (hSl : slots ≤ S) :
    Go p.tables e below (EndsW s C S Q) (T.setTop (mkF m pc Ls (w :: rest))) :=
  leafOW X hS hk hx hret hlk hn (Or.inr (Or.inr (Or.inr (Or.inr ⟨rfl, ht, hw⟩)))) hd hQ hC hSl
theorem leafNW (X : Stand p l e R (s.setVm vm0) m args below meth c T locs cells slots) (hS : s.Since vm0 k0) (hk : k0 ≤ T.heap.size) (hx : p.tables.exec = Jvm.exec) {t : FieldType} (hret : meth.sig.returnType = some t) (ht : t = .boolean ∨ t = .byte ∨ t = .char ∨ t = .short) (hlk : meth.locks = false) {pc : Nat} {Ls : Array Slot} {z w : Int32} {rest : List Value} (hw : nar t z = w)
    (hd : decode c.code pc = .ok (.ireturn, 1)) {Q : Option Value → Heap → List Loc → Prop} {C S : Nat} (hQ : Q (some (.int w)) T.heap locs) (hC : cells ≤ C) (hSl : slots ≤ S) :
    Go p.tables e below (EndsW s C S Q) (T.setTop (mkF m pc Ls (.int z :: rest))) := by
  subst hw
  obtain ⟨fs, hr, hrun, hended, hE⟩ := X.leaveW hS hk (v := some (.int (nar t z))) (fun h => by rw [hret] at h; cases h) hlk
  exact ⟨_, _, retN X hx hret ht hd hr, hrun, hended, _, _, rfl, hQ, hE.1, hE.2.1, hE.2.2.1, hE.2.2.2.mono hC hSl⟩
theorem goSW (X : Stand p l e R (s.setVm vm0) m args below meth c T locs cells slots) (hS : s.Since vm0 k0) (hk : k0 ≤ T.heap.size) (hx : p.tables.exec = Jvm.exec) (hZ : Z.Warmed39 vm0) {own : String} {index : Nat} {y : MethodName} {bytes : ByteArray} {maxL : Nat} {ret : Option FieldType} (hown : vm0.findClass own = some m.cls)
    (w1 : (Jvm.Cond.methodLink own index y).before a0 Z = true) (w2 : (Jvm.Cond.static y).before a0 Z = true) (w3 : (Jvm.Cond.initialized y.cls).before a0 Z = true) (w4 : (Jvm.Cond.code y bytes maxL ret).before a0 Z = true)
    (hy : y.cls ≠ "java/lang/invoke/MethodHandle" ∧ y.cls ≠ "java/lang/invoke/VarHandle") {rm : Room} {as : Array Value} {Qc : Option Value → Heap → List Loc → Prop} (hM : ConW l Z y bytes maxL ret [] rm as h Qc) (eT : T.heap = h)
    {pc : Nat} {Ls : Array Slot} {st : List Value} (hsize : Ls.size = c.maxLocals) (argsL rest : List Value) (has : argsL.toArray = as) {ps : List FieldType} {r : Option FieldType} (hpd : parseMethodDescriptor y.desc = some ⟨ps, r⟩) (hlen : argsL.length = ps.length) (hst : st = argsL.reverse ++ rest)
    (W : Nat) (hW : (rest.map fun v => v.category).sum = W) (hd : decode c.code pc = .ok (.invokestatic index, 3)) (hf : rm.frames + 1 ≤ R.frames) (hl : W + (maxL + 11) + rm.locals ≤ R.locals) (hc : cells + rm.cells ≤ R.cells) (hs : slots + rm.slots ≤ R.slots) {P : Outcome → State → Prop}
    (k : ∀ (T' : State) (L : List Loc) (v : Option Value), Qc v T'.heap L → Stand p l e R (s.setVm T'.vm) m args below meth c T' (locs ++ L) (cells + rm.cells) (slots + rm.slots) → s.Since T'.vm T'.heap.size → T.heap.size ≤ T'.heap.size → Z.Warmed39 T'.vm → T'.vm.findClass own = some m.cls → Go p.tables e below P (T'.setTop (mkF m (pc + 3) Ls (v.toList ++ rest)))) :
    Go p.tables e below P (T.setTop (mkF m pc Ls st)) := by
  subst hst
  have hZ' : Z.Warmed39 (s.setVm vm0).vm := hZ
  obtain ⟨v, _, ⟨T', L', k', n'⟩, -, X', hS', hg', ⟨L, hQ, q1, q2, q3⟩, st⟩ := callSS X hx (y := y) hown (mvT hZ' w1) (mvT hZ' w2) (mvT hZ' w3) (mvT hZ' w4) hy (backOfS (W := W) hM hZ' w4 w3 hf hl) (g := mkF m pc Ls (argsL.reverse ++ rest)) rfl hsize (argsL := argsL) (rest := rest) (lenOf hpd hlen) rfl (by show 2 * 0 + _ ≤ _; omega) hd (fun _ _ => ⟨has, eT, hc, hs⟩)
  dsimp only [Pt.U, Pt.locs, Pt.cells, Pt.slots] at X' q1 q2 q3 st hQ hS' hg'
  subst q1 q2 q3
  exact Go.via st (k T' L v hQ X' (hS.trans hS' (Nat.le_trans hk hg')) hg' (State.Warmed39.trans (t := s.setVm vm0) hZ hS'.1) (by rw [hS'.1.alike.findClass]; exact hown))
end KitW
/-! own_kit, with the constants' invariant (RoadKit's CHv, CHr) -/
def Str (Z : State) (h : Heap) (a : Addr) (z : Int32) (vs : List Value) : Prop :=
  ∃ (b : Addr) (k : ClassId), Exa Z h a "java/lang/String" ∧ Fld Z h a "java/lang/String" "coder" "B" (.int 0) ∧ Fld Z h a "java/lang/String" "value" "[B" (.ref b) ∧ Arv Z h b k .byte z vs (.int 0)
theorem Str.ext {Z : State} {h h' : Heap} {a : Addr} {z : Int32} {vs : List Value} (F : Str Z h a z vs) (E : Ext h h') : Str Z h' a z vs := by
  obtain ⟨b, k, f1, f2, f3, f4⟩ := F
  exact ⟨b, k, f1.ext E, f2.ext E, f3.ext E, f4.ext E⟩
theorem Ext.self (h : Heap) : Ext h h := ⟨Nat.le_refl _, fun _ _ q => q⟩
theorem Ext.on {h h' h2 : Heap} (A : Ext h h') (B : Ext h' h2) : Ext h h2 := ⟨Nat.le_trans A.1 B.1, fun _ _ q => B.2 _ _ (A.2 _ _ q)⟩
theorem str_one {Z : State} {h : Heap} {a : Addr} {z z' : Int32} {vs vs' : List Value} (F : Str Z h a z vs) (F' : Str Z h a z' vs') : z.toNatClampNeg = z'.toNatClampNeg := by
  obtain ⟨b, k, -, -, ⟨cell, cf, kf, i, f, h1, h2, -, -, -, -, h3⟩, ⟨cl, A, -, S, -⟩⟩ := F
  obtain ⟨b', k', -, -, ⟨cell', cf', kf', i', f', h1', h2', -, -, -, -, h3'⟩, ⟨cl', A', -, S', -⟩⟩ := F'
  cases h1.symm.trans h1'
  cases h2.symm.trans h2'
  cases h3.symm.trans h3'
  cases A.1.symm.trans A'.1
  exact S.symm.trans S'
def EndsH (Z : State) (EL : List (String × Nat)) (s : State) (C S : Nat) (Q : Option Value → Heap → List Loc → Prop) (o : Outcome) (U : State) : Prop :=
  ∃ v L, o = .returned v ∧ Q v U.heap L ∧ CHr Z EL s.vm s.heap U.vm U.heap ∧ ReturnedEndW s o U L C S
abbrev ConH (l : Launch) (Z : State) (EL : List (String × Nat)) (y : MethodName) (bytes : ByteArray) (mx : Nat) (ret : Option FieldType) (ws : List Jvm.Cond) (rm : Room) (as : Array Value) (h0 : Heap) (Q : Option Value → Heap → List Loc → Prop) : Prop :=
  MetFree l y (head1 (Jvm.Cond.code y bytes mx ret :: ws) rm) (fun a U => a = as ∧ Z.Warmed39 U.vm ∧ U.heap = h0 ∧ CHv Z EL U.vm h0) (fun _ _ _ _ _ => True) (fun _ U o U' => ∃ v L, o = .returned v ∧ Q v U'.heap L ∧ CHr Z EL U.vm U.heap U'.vm U'.heap ∧ ReturnedEndW U o U' L rm.cells rm.slots)
theorem ConH.of {l : Launch} {Z : State} {EL : List (String × Nat)} {y : MethodName} {bytes : ByteArray} {mx : Nat} {ret : Option FieldType} {ws : List Jvm.Cond} {rm : Room} {as : Array Value} {h0 : Heap} {Q : Option Value → Heap → List Loc → Prop} (hpl : plainFor y = true)
    (body : ∀ (p : Program) (e : Env) (s : State) (m : MethodId) (below : List Frame) (meth : Method) (c : Code) (s₁ : State), Z.Warmed39 s.vm → p.tables.exec = Jvm.exec → c.code = bytes → c.maxLocals = mx → s.vm.findClass y.cls = some m.cls → meth.sig.returnType = ret → meth.locks = false → meth.name = y.name →
      Stand p l e rm (s.setVm s.vm) m as below meth c s₁ [] 0 0 → s₁.heap = h0 → s.heap = h0 → s.Since s.vm h0.size → CHr Z EL s.vm s.heap s.vm h0 → Go p.tables e below (EndsH Z EL s rm.cells rm.slots Q) (s₁.setTop (entryFrame m as mx))) :
    ConH l Z EL y bytes mx ret ws rm as h0 Q := by
  refine MetFree.of_bodySF hpl hisR ?_
  intro p e s m args below meth c s₁ Bd hml0 hP hK
  obtain ⟨rfl, hZ, hh, hH⟩ := hP
  exact body p e s m below meth c s₁ hZ Bd.exec Bd.bytes hml0 (findClass_of_methodNamed Bd.named) Bd.returns Bd.notSynchronized (name_of_methodNamed Bd.named Bd.method).1 (Stand.of_body Bd) (by rw [← hh, Bd.state]; rfl) hh ((State.WarmedH.refl s).since _) (by rw [hh]; exact CHr.refl hH)
section KitH
variable {p : Program} {l : Launch} {e : Env} {R : Room} {s : State} {vm0 : Vm} {m : MethodId} {args : Array Value} {below : List Frame} {meth : Method} {c : Code} {T : State} {locs : List Loc} {cells slots : Nat} {Z : State} {a0 : Array Value} {h : Heap} {k0 : Nat} {EL : List (String × Nat)}
theorem leafAH (X : Stand p l e R (s.setVm vm0) m args below meth c T locs cells slots) (hS : s.Since vm0 k0) (hk : k0 ≤ T.heap.size) (hZ : Z.Warmed39 vm0) (hEL : EW Z a0 EL) (H : CHr Z EL s.vm s.heap vm0 h) (eT : T.heap = h) (hx : p.tables.exec = Jvm.exec) {t : FieldType} (hret : meth.sig.returnType = some t) (ht : t.isReference = true) (hlk : meth.locks = false) {pc : Nat} {Ls : Array Slot} {w : Value} {rest : List Value} (hw : w.isRef = true) (hn : narrow t w = w)
    (hd : decode c.code pc = .ok (.areturn, 1)) {Q : Option Value → Heap → List Loc → Prop} {C S : Nat} (hQ : Q (some w) T.heap locs) (hC : cells ≤ C) (hSl : slots ≤ S) :
    Go p.tables e below (EndsH Z EL s C S Q) (T.setTop (mkF m pc Ls (w :: rest))) := by
  obtain ⟨fs, hr, hrun, hended, hE⟩ := X.leaveW hS hk (v := some w) (fun h => by rw [hret] at h; cases h) hlk
  subst eT
  have hA : CHr Z EL s.vm s.heap T.vm T.heap := H.trans (CHv.at X hZ hEL H.1)
  exact ⟨_, _, retOut X hx hret hn (Or.inr (Or.inr (Or.inr (Or.inr ⟨rfl, ht, hw⟩)))) hd hr, hrun, hended, _, _, rfl, hQ, hA, hE.1, hE.2.1, hE.2.2.1, hE.2.2.2.mono hC hSl⟩
theorem leafNH (X : Stand p l e R (s.setVm vm0) m args below meth c T locs cells slots) (hS : s.Since vm0 k0) (hk : k0 ≤ T.heap.size) (hZ : Z.Warmed39 vm0) (hEL : EW Z a0 EL) (H : CHr Z EL s.vm s.heap vm0 h) (eT : T.heap = h) (hx : p.tables.exec = Jvm.exec) {t : FieldType} (hret : meth.sig.returnType = some t) (ht : t = .boolean ∨ t = .byte ∨ t = .char ∨ t = .short) (hlk : meth.locks = false) {pc : Nat} {Ls : Array Slot} {z w : Int32} {rest : List Value} (hw : nar t z = w)
    (hd : decode c.code pc = .ok (.ireturn, 1)) {Q : Option Value → Heap → List Loc → Prop} {C S : Nat} (hQ : Q (some (.int w)) T.heap locs) (hC : cells ≤ C) (hSl : slots ≤ S) :
    Go p.tables e below (EndsH Z EL s C S Q) (T.setTop (mkF m pc Ls (.int z :: rest))) := by
  subst hw
  obtain ⟨fs, hr, hrun, hended, hE⟩ := X.leaveW hS hk (v := some (.int (nar t z))) (fun h => by rw [hret] at h; cases h) hlk
  subst eT
  have hA : CHr Z EL s.vm s.heap T.vm T.heap := H.trans (CHv.at X hZ hEL H.1)
  exact ⟨_, _, retN X hx hret ht hd hr, hrun, hended, _, _, rfl, hQ, hA, hE.1, hE.2.1, hE.2.2.1, hE.2.2.2.mono hC hSl⟩
theorem goSH (X : Stand p l e R (s.setVm vm0) m args below meth c T locs cells slots) (hS : s.Since vm0 k0) (hk : k0 ≤ T.heap.size) (hx : p.tables.exec = Jvm.exec) (hZ : Z.Warmed39 vm0) (hEL : EW Z a0 EL) {vS : Vm} {hS0 : Heap} (H : CHr Z EL vS hS0 vm0 h) {own : String} {index : Nat} {y : MethodName} {bytes : ByteArray} {maxL : Nat} {ret : Option FieldType} (hown : vm0.findClass own = some m.cls)
    (w1 : (Jvm.Cond.methodLink own index y).before a0 Z = true) (w2 : (Jvm.Cond.static y).before a0 Z = true) (w3 : (Jvm.Cond.initialized y.cls).before a0 Z = true) (w4 : (Jvm.Cond.code y bytes maxL ret).before a0 Z = true)
    (hy : y.cls ≠ "java/lang/invoke/MethodHandle" ∧ y.cls ≠ "java/lang/invoke/VarHandle") {rm : Room} {as : Array Value} {Qc : Option Value → Heap → List Loc → Prop} (hM : ConH l Z EL y bytes maxL ret [] rm as h Qc) (eT : T.heap = h)
    {pc : Nat} {Ls : Array Slot} {st : List Value} (hsize : Ls.size = c.maxLocals) (argsL rest : List Value) (has : argsL.toArray = as) {ps : List FieldType} {r : Option FieldType} (hpd : parseMethodDescriptor y.desc = some ⟨ps, r⟩) (hlen : argsL.length = ps.length) (hst : st = argsL.reverse ++ rest)
    (W : Nat) (hW : (rest.map fun v => v.category).sum = W) (hd : decode c.code pc = .ok (.invokestatic index, 3)) (hf : rm.frames + 1 ≤ R.frames) (hl : W + (maxL + 11) + rm.locals ≤ R.locals) (hc : cells + rm.cells ≤ R.cells) (hs : slots + rm.slots ≤ R.slots) {P : Outcome → State → Prop}
    (k : ∀ (T' : State) (L : List Loc) (v : Option Value), Qc v T'.heap L → Stand p l e R (s.setVm T'.vm) m args below meth c T' (locs ++ L) (cells + rm.cells) (slots + rm.slots) → s.Since T'.vm T'.heap.size → CHr Z EL vS hS0 T'.vm T'.heap → Z.Warmed39 T'.vm → T'.vm.findClass own = some m.cls → Go p.tables e below P (T'.setTop (mkF m (pc + 3) Ls (v.toList ++ rest)))) :
    Go p.tables e below P (T.setTop (mkF m pc Ls st)) := by
  subst hst
  have hZ' : Z.Warmed39 (s.setVm vm0).vm := hZ
  obtain ⟨v, _, ⟨T', L', k', n'⟩, -, X', hS', hg', ⟨L, hQ, q1, q2, q3, q4⟩, st⟩ := callSS X hx (y := y) hown (mvT hZ' w1) (mvT hZ' w2) (mvT hZ' w3) (mvT hZ' w4) hy (backOfSH (W := W) hM hZ w4 w3 hf hl hEL H.1) (g := mkF m pc Ls (argsL.reverse ++ rest)) rfl hsize (argsL := argsL) (rest := rest) (lenOf hpd hlen) rfl (by show 2 * 0 + _ ≤ _; omega) hd (fun _ _ => ⟨has, eT, hc, hs⟩)
  dsimp only [Pt.U, Pt.locs, Pt.cells, Pt.slots] at X' q1 q2 q3 q4 st hQ hS' hg'
  subst q1 q2 q3
  exact Go.via st (k T' L v hQ X' (hS.trans hS' (Nat.le_trans hk hg')) (H.trans q4) (State.Warmed39.trans (t := s.setVm vm0) hZ hS'.1) (by rw [hS'.1.alike.findClass]; exact hown))
theorem ldcK (X : Stand p l e R (s.setVm vm0) m args below meth c T locs cells slots) (hx : p.tables.exec = Jvm.exec) (hZ : Z.Warmed39 vm0) {own text : String} {index : Nat} (hown : vm0.findClass own = some m.cls) (w : (Jvm.Cond.stringLink own index text).before a0 Z = true) (wS : ∀ a ∈ Bundle.stringAtoms, a.before a0 Z = true)
    (eT : T.heap = h) (hS : s.Since vm0 k0) (hk : k0 ≤ h.size) (hEL : EW Z a0 EL) (hmem : (own, index) ∈ EL) {vS : Vm} {hS0 : Heap} (H : CHr Z EL vS hS0 vm0 h)
    (vs : List Value) (z : Int32) (ht : (∀ c ∈ text.toList, c.toNat < 256) ∧ text.toList.map (fun c => Value.int (Jvm.Lit.byteI c.toNat.toUInt16)) = vs) (hz : ¬ z < 0) (hl : z.toNatClampNeg = vs.length)
    {g : JFrame} (hg : g.method = m) (hd : decode c.code g.pc = .ok (.ldc index, 2)) (n : Nat) (hn : 4 * text.toList.length ≤ n) (hbig : n ≤ 536870912) (hc : cells + 2 ≤ R.cells) (hl' : slots + (n + 4) ≤ R.slots) :
    ∃ (a : Addr) (T' : State) (h' : Heap) (k1 : Nat), Stand p l e R (s.setVm T'.vm) m args below meth c T' locs (cells + 2) (slots + (n + 4)) ∧ T'.heap = h' ∧ Ext h h' ∧ s.Since T'.vm k1 ∧ k1 ≤ h'.size ∧ Z.Warmed39 T'.vm ∧ T'.vm.findClass own = some m.cls ∧
      Str Z h' a z vs ∧ CHr Z EL vS hS0 T'.vm h' ∧ Lit (s.setVm T'.vm) own index a ∧ (s.setVm vm0).Warmed39 T'.vm ∧
      ∀ target, Steps p.tables e below (T'.setTop { g with pc := g.pc + 2, stack := .ref a :: g.stack }) target → Steps p.tables e below (T.setTop g) target := by
  have hS9 : (s.setVm vm0).Since vm0 h.size := (State.WarmedH.refl (s.setVm vm0)).since _
  obtain ⟨a, T', h', k1, b, k, X', eT', E, hS', hk', hZ', hown', f1, f2, f3, f4, -, -, hC, hL, -, st⟩ := ldcCH (s := s.setVm vm0) (vm0 := vm0) X hx hZ hown w wS eT hS9 (Nat.le_refl _) hEL hmem H.1 ht hz hl hg hd hn hbig hc hl'
  exact ⟨a, T', h', h'.size, X', eT', E, hS.trans (n₂ := h'.size) ⟨hS'.1, hS'.2.mono hk'⟩ (Nat.le_trans hk E.1), Nat.le_refl _, hZ', hown', ⟨b, k, f1, f2, f3, f4⟩, H.trans hC, hL, hS'.1, st⟩
end KitH

theorem own_EW {Z : State} {a0 : Array Value} (hw : ∀ d ∈ tables_1, d.before a0 Z = true) : EW Z a0 consts_1 := EW.cons (hw _ (List.mem_of_getElem? (i := 21) rfl)) (by decide) (EW.cons (hw _ (List.mem_of_getElem? (i := 4) rfl)) (by decide) (EW.cons (hw _ (List.mem_of_getElem? (i := 32) rfl)) (by decide) (EW.cons (hw _ (List.mem_of_getElem? (i := 12) rfl)) (by decide) EW.nil)))
theorem own_wS {Z : State} {a0 : Array Value} (hw : ∀ d ∈ tables_1, d.before a0 Z = true) : ∀ a ∈ Bundle.stringAtoms, a.before a0 Z = true := by
  intro d hd; simp only [Bundle.stringAtoms, List.mem_cons, List.not_mem_nil, or_false] at hd; rcases hd with rfl | rfl | rfl | rfl | rfl | rfl | rfl <;> first | exact hw _ (List.mem_of_getElem? (i := 5) rfl) | exact hw _ (List.mem_of_getElem? (i := 6) rfl) | exact hw _ (List.mem_of_getElem? (i := 7) rfl) | exact hw _ (List.mem_of_getElem? (i := 8) rfl) | exact hw _ (List.mem_of_getElem? (i := 9) rfl) | exact hw _ (List.mem_of_getElem? (i := 10) rfl) | exact hw _ (List.mem_of_getElem? (i := 11) rfl)
theorem d1_0 : decode prog_34_method_3_code 0 = .ok (.iload_n 0, 1) := by decide +kernel
theorem d1_1 : decode prog_34_method_3_code 1 = .ok (.ifCond .eq 8, 3) := by decide +kernel
theorem d1_4 : decode prog_34_method_3_code 4 = .ok (.ldc 9, 2) := by decide +kernel
theorem d1_6 : decode prog_34_method_3_code 6 = .ok (.goto 5, 3) := by decide +kernel
theorem d1_9 : decode prog_34_method_3_code 9 = .ok (.ldc 17, 2) := by decide +kernel
theorem d1_11 : decode prog_34_method_3_code 11 = .ok (.areturn, 1) := by decide +kernel
theorem pn1 : plainFor (⟨"com/example/vestwright/vestwright/PlainFlags", "format", "(Z)Ljava/lang/String;"⟩ : MethodName) = true := plainFor_of_name (by first | (simp [plainName, overriddenIn]; done) | decide +kernel)
theorem pd1 : parseMethodDescriptor "(Z)Ljava/lang/String;" = some ⟨[.boolean], some (.object "java/lang/String")⟩ := by decide +kernel
theorem d2_0 : decode jdk_42_method_66_code 0 = .ok (.aload_n 0, 1) := by decide +kernel
theorem d2_1 : decode jdk_42_method_66_code 1 = .ok (.aload_n 1, 1) := by decide +kernel
theorem d2_2 : decode jdk_42_method_66_code 2 = .ok (.if_acmp .ne 5, 3) := by decide +kernel
theorem d2_5 : decode jdk_42_method_66_code 5 = .ok (.iconst 1, 1) := by decide +kernel
theorem d2_6 : decode jdk_42_method_66_code 6 = .ok (.ireturn, 1) := by decide +kernel
theorem d2_7 : decode jdk_42_method_66_code 7 = .ok (.aload_n 1, 1) := by decide +kernel
theorem d2_8 : decode jdk_42_method_66_code 8 = .ok (.instanceof 10, 3) := by decide +kernel
theorem d2_11 : decode jdk_42_method_66_code 11 = .ok (.ifCond .eq 43, 3) := by decide +kernel
theorem d2_14 : decode jdk_42_method_66_code 14 = .ok (.aload_n 1, 1) := by decide +kernel
theorem d2_15 : decode jdk_42_method_66_code 15 = .ok (.checkcast 10, 3) := by decide +kernel
theorem d2_18 : decode jdk_42_method_66_code 18 = .ok (.astore_n 2, 1) := by decide +kernel
theorem d2_19 : decode jdk_42_method_66_code 19 = .ok (.getstatic 38, 3) := by decide +kernel
theorem d2_22 : decode jdk_42_method_66_code 22 = .ok (.ifCond .eq 14, 3) := by decide +kernel
theorem d2_25 : decode jdk_42_method_66_code 25 = .ok (.aload_n 0, 1) := by decide +kernel
theorem d2_26 : decode jdk_42_method_66_code 26 = .ok (.getfield 15, 3) := by decide +kernel
theorem d2_29 : decode jdk_42_method_66_code 29 = .ok (.aload_n 2, 1) := by decide +kernel
theorem d2_30 : decode jdk_42_method_66_code 30 = .ok (.getfield 15, 3) := by decide +kernel
theorem d2_33 : decode jdk_42_method_66_code 33 = .ok (.if_icmp .ne 21, 3) := by decide +kernel
theorem d2_36 : decode jdk_42_method_66_code 36 = .ok (.aload_n 0, 1) := by decide +kernel
theorem d2_37 : decode jdk_42_method_66_code 37 = .ok (.getfield 9, 3) := by decide +kernel
theorem d2_40 : decode jdk_42_method_66_code 40 = .ok (.aload_n 2, 1) := by decide +kernel
theorem d2_41 : decode jdk_42_method_66_code 41 = .ok (.getfield 9, 3) := by decide +kernel
theorem d2_44 : decode jdk_42_method_66_code 44 = .ok (.invokestatic 541, 3) := by decide +kernel
theorem d2_47 : decode jdk_42_method_66_code 47 = .ok (.ifCond .eq 7, 3) := by decide +kernel
theorem d2_50 : decode jdk_42_method_66_code 50 = .ok (.iconst 1, 1) := by decide +kernel
theorem d2_51 : decode jdk_42_method_66_code 51 = .ok (.goto 4, 3) := by decide +kernel
theorem d2_54 : decode jdk_42_method_66_code 54 = .ok (.iconst 0, 1) := by decide +kernel
theorem d2_55 : decode jdk_42_method_66_code 55 = .ok (.ireturn, 1) := by decide +kernel
theorem pn2 : plainFor (⟨"java/lang/String", "equals", "(Ljava/lang/Object;)Z"⟩ : MethodName) = true := plainFor_of_name (by first | (simp [plainName, overriddenIn]; done) | decide +kernel)
theorem pd2 : parseMethodDescriptor "(Ljava/lang/Object;)Z" = some ⟨[(.object "java/lang/Object")], some .boolean⟩ := by decide +kernel
theorem d3_0 : decode prog_34_method_2_code 0 = .ok (.aload_n 0, 1) := by decide +kernel
theorem d3_1 : decode prog_34_method_2_code 1 = .ok (.ldc 9, 2) := by decide +kernel
theorem d3_3 : decode prog_34_method_2_code 3 = .ok (.invokevirtual 11, 3) := by decide +kernel
theorem d3_6 : decode prog_34_method_2_code 6 = .ok (.ifCond .ne 26, 3) := by decide +kernel
theorem d3_9 : decode prog_34_method_2_code 9 = .ok (.aload_n 0, 1) := by decide +kernel
theorem d3_10 : decode prog_34_method_2_code 10 = .ok (.ldc 17, 2) := by decide +kernel
theorem d3_12 : decode prog_34_method_2_code 12 = .ok (.invokevirtual 11, 3) := by decide +kernel
theorem d3_15 : decode prog_34_method_2_code 15 = .ok (.ifCond .ne 17, 3) := by decide +kernel
theorem d3_18 : decode prog_34_method_2_code 18 = .ok (.new 19, 3) := by decide +kernel
theorem d3_21 : decode prog_34_method_2_code 21 = .ok (.dup, 1) := by decide +kernel
theorem d3_22 : decode prog_34_method_2_code 22 = .ok (.aload_n 0, 1) := by decide +kernel
theorem d3_23 : decode prog_34_method_2_code 23 = .ok (.invokedynamic 21, 5) := by decide +kernel
theorem d3_28 : decode prog_34_method_2_code 28 = .ok (.invokespecial 25, 3) := by decide +kernel
theorem d3_31 : decode prog_34_method_2_code 31 = .ok (.athrow, 1) := by decide +kernel
theorem d3_32 : decode prog_34_method_2_code 32 = .ok (.aload_n 0, 1) := by decide +kernel
theorem d3_33 : decode prog_34_method_2_code 33 = .ok (.ldc 9, 2) := by decide +kernel
theorem d3_35 : decode prog_34_method_2_code 35 = .ok (.invokevirtual 11, 3) := by decide +kernel
theorem d3_38 : decode prog_34_method_2_code 38 = .ok (.ireturn, 1) := by decide +kernel
theorem pn3 : plainFor (⟨"com/example/vestwright/vestwright/PlainFlags", "parse", "(Ljava/lang/String;)Z"⟩ : MethodName) = true := plainFor_of_name (by first | (simp [plainName, overriddenIn]; done) | decide +kernel)
theorem pd3 : parseMethodDescriptor "(Ljava/lang/String;)Z" = some ⟨[(.object "java/lang/String")], some .boolean⟩ := by decide +kernel
theorem d4_0 : decode jdk_43_method_13_code 0 = .ok (.aload_n 0, 1) := by decide +kernel
theorem d4_1 : decode jdk_43_method_13_code 1 = .ok (.arraylength, 1) := by decide +kernel
theorem d4_2 : decode jdk_43_method_13_code 2 = .ok (.aload_n 1, 1) := by decide +kernel
theorem d4_3 : decode jdk_43_method_13_code 3 = .ok (.arraylength, 1) := by decide +kernel
theorem d4_4 : decode jdk_43_method_13_code 4 = .ok (.if_icmp .ne 30, 3) := by decide +kernel
theorem d4_7 : decode jdk_43_method_13_code 7 = .ok (.iconst 0, 1) := by decide +kernel
theorem d4_8 : decode jdk_43_method_13_code 8 = .ok (.istore_n 2, 1) := by decide +kernel
theorem d4_9 : decode jdk_43_method_13_code 9 = .ok (.iload_n 2, 1) := by decide +kernel
theorem d4_10 : decode jdk_43_method_13_code 10 = .ok (.aload_n 0, 1) := by decide +kernel
theorem d4_11 : decode jdk_43_method_13_code 11 = .ok (.arraylength, 1) := by decide +kernel
theorem d4_12 : decode jdk_43_method_13_code 12 = .ok (.if_icmp .ge 20, 3) := by decide +kernel
theorem d4_15 : decode jdk_43_method_13_code 15 = .ok (.aload_n 0, 1) := by decide +kernel
theorem d4_16 : decode jdk_43_method_13_code 16 = .ok (.iload_n 2, 1) := by decide +kernel
theorem d4_17 : decode jdk_43_method_13_code 17 = .ok (.baload, 1) := by decide +kernel
theorem d4_18 : decode jdk_43_method_13_code 18 = .ok (.aload_n 1, 1) := by decide +kernel
theorem d4_19 : decode jdk_43_method_13_code 19 = .ok (.iload_n 2, 1) := by decide +kernel
theorem d4_20 : decode jdk_43_method_13_code 20 = .ok (.baload, 1) := by decide +kernel
theorem d4_21 : decode jdk_43_method_13_code 21 = .ok (.if_icmp .eq 5, 3) := by decide +kernel
theorem d4_24 : decode jdk_43_method_13_code 24 = .ok (.iconst 0, 1) := by decide +kernel
theorem d4_25 : decode jdk_43_method_13_code 25 = .ok (.ireturn, 1) := by decide +kernel
theorem d4_26 : decode jdk_43_method_13_code 26 = .ok (.iinc 2 1, 3) := by decide +kernel
theorem d4_29 : decode jdk_43_method_13_code 29 = .ok (.goto (-20), 3) := by decide +kernel
theorem d4_32 : decode jdk_43_method_13_code 32 = .ok (.iconst 1, 1) := by decide +kernel
theorem d4_33 : decode jdk_43_method_13_code 33 = .ok (.ireturn, 1) := by decide +kernel
theorem d4_34 : decode jdk_43_method_13_code 34 = .ok (.iconst 0, 1) := by decide +kernel
theorem d4_35 : decode jdk_43_method_13_code 35 = .ok (.ireturn, 1) := by decide +kernel
theorem pn4 : plainFor (⟨"java/lang/StringLatin1", "equals", "([B[B)Z"⟩ : MethodName) = true := plainFor_of_name (by first | (simp [plainName, overriddenIn]; done) | decide +kernel)
theorem pd4 : parseMethodDescriptor "([B[B)Z" = some ⟨[(.array .byte), (.array .byte)], some .boolean⟩ := by decide +kernel
theorem ef4 (m : MethodId) (x0 : Addr) (x1 : Addr) : entryFrame m #[(.ref x0), (.ref x1)] 3 = mkF m 0 #[.val (.ref x0), .val (.ref x1), .unset] [] := by first | (simp [entryFrame, mkF, argsToLocals, Value.category]; done) | rfl
theorem ef2 (m : MethodId) (x0 : Addr) (x1 : Addr) : entryFrame m #[(.ref x0), (.ref x1)] 3 = mkF m 0 #[.val (.ref x0), .val (.ref x1), .unset] [] := by first | (simp [entryFrame, mkF, argsToLocals, Value.category]; done) | rfl
set_option maxRecDepth 65536 in
set_option maxHeartbeats 40000000 in
theorem rl_yes_yes (l : Launch) (Z : State) (a0 : Array Value) (hw : ∀ d ∈ tables_1, d.before a0 Z = true) (ws : List Jvm.Cond) (x0 : Addr) (x1 : Addr) (h0 : Heap) (k0 k1 : ClassId) (V0 : Arv Z h0 x0 k0 .byte (3 : Int32) [(.int (121 : Int32)), (.int (101 : Int32)), (.int (115 : Int32))] (.int 0)) (V1 : Arv Z h0 x1 k1 .byte (3 : Int32) [(.int (121 : Int32)), (.int (101 : Int32)), (.int (115 : Int32))] (.int 0)) : Con l Z (⟨"java/lang/StringLatin1", "equals", "([B[B)Z"⟩ : MethodName) jdk_43_method_13_code 3 (some .boolean) ws ({ frames := 0, cells := 0, slots := 0, locals := 0 } : Room) #[(.ref x0), (.ref x1)] h0 (fun v h L => v = some (.int (1 : Int32)) ∧ h = h0 ∧ L = []) := by
  refine Con.of pn4 fun p e s m below meth c s₁ hZ hx hby hml hown hret hlk hnm X0 e0 => ?_
  rw [ef4]
  obtain ⟨cl0, Ar0, q0, S0, N0, H0, G0⟩ := V0
  have SZ0 : cl0.slots.size.toInt32 = (3 : Int32) := by rw [S0]; decide
  obtain ⟨cl1, Ar1, q1, S1, N1, H1, G1⟩ := V1
  have SZ1 : cl1.slots.size.toInt32 = (3 : Int32) := by rw [S1]; decide
  show Go _ _ _ _ (s₁.setTop (mkF m 0 #[.val (.ref x0), .val (.ref x1), .unset] []))
  refine Go.step (fun _ k => XS.aloadN X0.here hx rfl (hb hby d4_0) rfl rfl k) ?_
  show Go _ _ _ _ (s₁.setTop (mkF m 1 #[.val (.ref x0), .val (.ref x1), .unset] [(.ref x0)]))
  refine Go.step (fun tg k => X0.arraylength hx (by rw [e0]; exact Ar0.1) (State.isArrayOf_alike hZ.alike Ar0.2.1) (g := (mkF m 1 #[.val (.ref x0), .val (.ref x1), .unset] [(.ref x0)])) rfl rfl (hb hby d4_1) tg k) ?_
  rw [SZ0]
  show Go _ _ _ _ (s₁.setTop (mkF m 2 #[.val (.ref x0), .val (.ref x1), .unset] [(.int (3 : Int32))]))
  refine Go.step (fun _ k => XS.aloadN X0.here hx rfl (hb hby d4_2) rfl rfl k) ?_
  show Go _ _ _ _ (s₁.setTop (mkF m 3 #[.val (.ref x0), .val (.ref x1), .unset] [(.ref x1), (.int (3 : Int32))]))
  refine Go.step (fun tg k => X0.arraylength hx (by rw [e0]; exact Ar1.1) (State.isArrayOf_alike hZ.alike Ar1.2.1) (g := (mkF m 3 #[.val (.ref x0), .val (.ref x1), .unset] [(.ref x1), (.int (3 : Int32))])) rfl rfl (hb hby d4_3) tg k) ?_
  rw [SZ1]
  show Go _ _ _ _ (s₁.setTop (mkF m 4 #[.val (.ref x0), .val (.ref x1), .unset] [(.int (3 : Int32)), (.int (3 : Int32))]))
  refine Go.step (fun _ k => XS.icmpNo X0.here hx rfl (hb hby d4_4) rfl (teq (by decide : ((3 : Int32) = (3 : Int32)))).2 k) ?_
  show Go _ _ _ _ (s₁.setTop (mkF m 7 #[.val (.ref x0), .val (.ref x1), .unset] []))
  refine Go.step (fun _ k => XS.iconst X0.here hx rfl (hb hby d4_7) k) ?_
  show Go _ _ _ _ (s₁.setTop (mkF m 8 #[.val (.ref x0), .val (.ref x1), .unset] [(.int (0 : Int32))]))
  refine Go.step (fun _ k => XS.istoreN X0.here hx rfl (hb hby d4_8) rfl (l' := #[.val (.ref x0), .val (.ref x1), .val (.int (0 : Int32))]) rfl k) ?_
  show Go _ _ _ _ (s₁.setTop (mkF m 9 #[.val (.ref x0), .val (.ref x1), .val (.int (0 : Int32))] []))
  refine Go.step (fun _ k => XS.iloadN X0.here hx rfl (hb hby d4_9) rfl k) ?_
  show Go _ _ _ _ (s₁.setTop (mkF m 10 #[.val (.ref x0), .val (.ref x1), .val (.int (0 : Int32))] [(.int (0 : Int32))]))
  refine Go.step (fun _ k => XS.aloadN X0.here hx rfl (hb hby d4_10) rfl rfl k) ?_
  show Go _ _ _ _ (s₁.setTop (mkF m 11 #[.val (.ref x0), .val (.ref x1), .val (.int (0 : Int32))] [(.ref x0), (.int (0 : Int32))]))
  refine Go.step (fun tg k => X0.arraylength hx (by rw [e0]; exact Ar0.1) (State.isArrayOf_alike hZ.alike Ar0.2.1) (g := (mkF m 11 #[.val (.ref x0), .val (.ref x1), .val (.int (0 : Int32))] [(.ref x0), (.int (0 : Int32))])) rfl rfl (hb hby d4_11) tg k) ?_
  rw [SZ0]
  show Go _ _ _ _ (s₁.setTop (mkF m 12 #[.val (.ref x0), .val (.ref x1), .val (.int (0 : Int32))] [(.int (3 : Int32)), (.int (0 : Int32))]))
  refine Go.step (fun _ k => XS.icmpNo X0.here hx rfl (hb hby d4_12) rfl (tlt (by decide : ((0 : Int32) < (3 : Int32)))).2.1 k) ?_
  show Go _ _ _ _ (s₁.setTop (mkF m 15 #[.val (.ref x0), .val (.ref x1), .val (.int (0 : Int32))] []))
  refine Go.step (fun _ k => XS.aloadN X0.here hx rfl (hb hby d4_15) rfl rfl k) ?_
  show Go _ _ _ _ (s₁.setTop (mkF m 16 #[.val (.ref x0), .val (.ref x1), .val (.int (0 : Int32))] [(.ref x0)]))
  refine Go.step (fun _ k => XS.iloadN X0.here hx rfl (hb hby d4_16) rfl k) ?_
  show Go _ _ _ _ (s₁.setTop (mkF m 17 #[.val (.ref x0), .val (.ref x1), .val (.int (0 : Int32))] [(.int (0 : Int32)), (.ref x0)]))
  refine Go.step (fun tg k => X0.baloadBytes hx (j := (0 : Int32)) (v := .int (121 : Int32)) (by rw [e0]; exact Ar0.1) (State.isArrayOf_alike hZ.alike Ar0.2.1) Ar0.2.2 (inb_of S0 ⟨by decide, by decide⟩) (H0.at (inb_of S0 ⟨by decide, by decide⟩) rfl) (g := (mkF m 17 #[.val (.ref x0), .val (.ref x1), .val (.int (0 : Int32))] [(.int (0 : Int32)), (.ref x0)])) rfl rfl (hb hby d4_17) tg k) ?_
  show Go _ _ _ _ (s₁.setTop (mkF m 18 #[.val (.ref x0), .val (.ref x1), .val (.int (0 : Int32))] [(.int (121 : Int32))]))
  refine Go.step (fun _ k => XS.aloadN X0.here hx rfl (hb hby d4_18) rfl rfl k) ?_
  show Go _ _ _ _ (s₁.setTop (mkF m 19 #[.val (.ref x0), .val (.ref x1), .val (.int (0 : Int32))] [(.ref x1), (.int (121 : Int32))]))
  refine Go.step (fun _ k => XS.iloadN X0.here hx rfl (hb hby d4_19) rfl k) ?_
  show Go _ _ _ _ (s₁.setTop (mkF m 20 #[.val (.ref x0), .val (.ref x1), .val (.int (0 : Int32))] [(.int (0 : Int32)), (.ref x1), (.int (121 : Int32))]))
  refine Go.step (fun tg k => X0.baloadBytes hx (j := (0 : Int32)) (v := .int (121 : Int32)) (by rw [e0]; exact Ar1.1) (State.isArrayOf_alike hZ.alike Ar1.2.1) Ar1.2.2 (inb_of S1 ⟨by decide, by decide⟩) (H1.at (inb_of S1 ⟨by decide, by decide⟩) rfl) (g := (mkF m 20 #[.val (.ref x0), .val (.ref x1), .val (.int (0 : Int32))] [(.int (0 : Int32)), (.ref x1), (.int (121 : Int32))])) rfl rfl (hb hby d4_20) tg k) ?_
  show Go _ _ _ _ (s₁.setTop (mkF m 21 #[.val (.ref x0), .val (.ref x1), .val (.int (0 : Int32))] [(.int (121 : Int32)), (.int (121 : Int32))]))
  refine Go.step (fun _ k => XS.icmpYes X0.here hx rfl (pc0 := 21) (pc' := 26) rfl (hb hby d4_21) rfl (teq (by decide : ((121 : Int32) = (121 : Int32)))).1 (by decide) (by decide) k) ?_
  show Go _ _ _ _ (s₁.setTop (mkF m 26 #[.val (.ref x0), .val (.ref x1), .val (.int (0 : Int32))] []))
  refine Go.step (fun _ k => XS.iinc X0.here hx rfl (hb hby d4_26) rfl (l' := #[.val (.ref x0), .val (.ref x1), .val (.int (1 : Int32))]) rfl k) ?_
  show Go _ _ _ _ (s₁.setTop (mkF m 29 #[.val (.ref x0), .val (.ref x1), .val (.int (1 : Int32))] []))
  refine Go.step (fun _ k => XS.goto X0.here hx rfl (pc0 := 29) (pc' := 9) rfl (hb hby d4_29) (by decide) (by decide) k) ?_
  show Go _ _ _ _ (s₁.setTop (mkF m 9 #[.val (.ref x0), .val (.ref x1), .val (.int (1 : Int32))] []))
  refine Go.step (fun _ k => XS.iloadN X0.here hx rfl (hb hby d4_9) rfl k) ?_
  show Go _ _ _ _ (s₁.setTop (mkF m 10 #[.val (.ref x0), .val (.ref x1), .val (.int (1 : Int32))] [(.int (1 : Int32))]))
  refine Go.step (fun _ k => XS.aloadN X0.here hx rfl (hb hby d4_10) rfl rfl k) ?_
  show Go _ _ _ _ (s₁.setTop (mkF m 11 #[.val (.ref x0), .val (.ref x1), .val (.int (1 : Int32))] [(.ref x0), (.int (1 : Int32))]))
  refine Go.step (fun tg k => X0.arraylength hx (by rw [e0]; exact Ar0.1) (State.isArrayOf_alike hZ.alike Ar0.2.1) (g := (mkF m 11 #[.val (.ref x0), .val (.ref x1), .val (.int (1 : Int32))] [(.ref x0), (.int (1 : Int32))])) rfl rfl (hb hby d4_11) tg k) ?_
  rw [SZ0]
  show Go _ _ _ _ (s₁.setTop (mkF m 12 #[.val (.ref x0), .val (.ref x1), .val (.int (1 : Int32))] [(.int (3 : Int32)), (.int (1 : Int32))]))
  refine Go.step (fun _ k => XS.icmpNo X0.here hx rfl (hb hby d4_12) rfl (tlt (by decide : ((1 : Int32) < (3 : Int32)))).2.1 k) ?_
  show Go _ _ _ _ (s₁.setTop (mkF m 15 #[.val (.ref x0), .val (.ref x1), .val (.int (1 : Int32))] []))
  refine Go.step (fun _ k => XS.aloadN X0.here hx rfl (hb hby d4_15) rfl rfl k) ?_
  show Go _ _ _ _ (s₁.setTop (mkF m 16 #[.val (.ref x0), .val (.ref x1), .val (.int (1 : Int32))] [(.ref x0)]))
  refine Go.step (fun _ k => XS.iloadN X0.here hx rfl (hb hby d4_16) rfl k) ?_
  show Go _ _ _ _ (s₁.setTop (mkF m 17 #[.val (.ref x0), .val (.ref x1), .val (.int (1 : Int32))] [(.int (1 : Int32)), (.ref x0)]))
  refine Go.step (fun tg k => X0.baloadBytes hx (j := (1 : Int32)) (v := .int (101 : Int32)) (by rw [e0]; exact Ar0.1) (State.isArrayOf_alike hZ.alike Ar0.2.1) Ar0.2.2 (inb_of S0 ⟨by decide, by decide⟩) (H0.at (inb_of S0 ⟨by decide, by decide⟩) rfl) (g := (mkF m 17 #[.val (.ref x0), .val (.ref x1), .val (.int (1 : Int32))] [(.int (1 : Int32)), (.ref x0)])) rfl rfl (hb hby d4_17) tg k) ?_
  show Go _ _ _ _ (s₁.setTop (mkF m 18 #[.val (.ref x0), .val (.ref x1), .val (.int (1 : Int32))] [(.int (101 : Int32))]))
  refine Go.step (fun _ k => XS.aloadN X0.here hx rfl (hb hby d4_18) rfl rfl k) ?_
  show Go _ _ _ _ (s₁.setTop (mkF m 19 #[.val (.ref x0), .val (.ref x1), .val (.int (1 : Int32))] [(.ref x1), (.int (101 : Int32))]))
  refine Go.step (fun _ k => XS.iloadN X0.here hx rfl (hb hby d4_19) rfl k) ?_
  show Go _ _ _ _ (s₁.setTop (mkF m 20 #[.val (.ref x0), .val (.ref x1), .val (.int (1 : Int32))] [(.int (1 : Int32)), (.ref x1), (.int (101 : Int32))]))
  refine Go.step (fun tg k => X0.baloadBytes hx (j := (1 : Int32)) (v := .int (101 : Int32)) (by rw [e0]; exact Ar1.1) (State.isArrayOf_alike hZ.alike Ar1.2.1) Ar1.2.2 (inb_of S1 ⟨by decide, by decide⟩) (H1.at (inb_of S1 ⟨by decide, by decide⟩) rfl) (g := (mkF m 20 #[.val (.ref x0), .val (.ref x1), .val (.int (1 : Int32))] [(.int (1 : Int32)), (.ref x1), (.int (101 : Int32))])) rfl rfl (hb hby d4_20) tg k) ?_
  show Go _ _ _ _ (s₁.setTop (mkF m 21 #[.val (.ref x0), .val (.ref x1), .val (.int (1 : Int32))] [(.int (101 : Int32)), (.int (101 : Int32))]))
  refine Go.step (fun _ k => XS.icmpYes X0.here hx rfl (pc0 := 21) (pc' := 26) rfl (hb hby d4_21) rfl (teq (by decide : ((101 : Int32) = (101 : Int32)))).1 (by decide) (by decide) k) ?_
  show Go _ _ _ _ (s₁.setTop (mkF m 26 #[.val (.ref x0), .val (.ref x1), .val (.int (1 : Int32))] []))
  refine Go.step (fun _ k => XS.iinc X0.here hx rfl (hb hby d4_26) rfl (l' := #[.val (.ref x0), .val (.ref x1), .val (.int (2 : Int32))]) rfl k) ?_
  show Go _ _ _ _ (s₁.setTop (mkF m 29 #[.val (.ref x0), .val (.ref x1), .val (.int (2 : Int32))] []))
  refine Go.step (fun _ k => XS.goto X0.here hx rfl (pc0 := 29) (pc' := 9) rfl (hb hby d4_29) (by decide) (by decide) k) ?_
  show Go _ _ _ _ (s₁.setTop (mkF m 9 #[.val (.ref x0), .val (.ref x1), .val (.int (2 : Int32))] []))
  refine Go.step (fun _ k => XS.iloadN X0.here hx rfl (hb hby d4_9) rfl k) ?_
  show Go _ _ _ _ (s₁.setTop (mkF m 10 #[.val (.ref x0), .val (.ref x1), .val (.int (2 : Int32))] [(.int (2 : Int32))]))
  refine Go.step (fun _ k => XS.aloadN X0.here hx rfl (hb hby d4_10) rfl rfl k) ?_
  show Go _ _ _ _ (s₁.setTop (mkF m 11 #[.val (.ref x0), .val (.ref x1), .val (.int (2 : Int32))] [(.ref x0), (.int (2 : Int32))]))
  refine Go.step (fun tg k => X0.arraylength hx (by rw [e0]; exact Ar0.1) (State.isArrayOf_alike hZ.alike Ar0.2.1) (g := (mkF m 11 #[.val (.ref x0), .val (.ref x1), .val (.int (2 : Int32))] [(.ref x0), (.int (2 : Int32))])) rfl rfl (hb hby d4_11) tg k) ?_
  rw [SZ0]
  show Go _ _ _ _ (s₁.setTop (mkF m 12 #[.val (.ref x0), .val (.ref x1), .val (.int (2 : Int32))] [(.int (3 : Int32)), (.int (2 : Int32))]))
  refine Go.step (fun _ k => XS.icmpNo X0.here hx rfl (hb hby d4_12) rfl (tlt (by decide : ((2 : Int32) < (3 : Int32)))).2.1 k) ?_
  show Go _ _ _ _ (s₁.setTop (mkF m 15 #[.val (.ref x0), .val (.ref x1), .val (.int (2 : Int32))] []))
  refine Go.step (fun _ k => XS.aloadN X0.here hx rfl (hb hby d4_15) rfl rfl k) ?_
  show Go _ _ _ _ (s₁.setTop (mkF m 16 #[.val (.ref x0), .val (.ref x1), .val (.int (2 : Int32))] [(.ref x0)]))
  refine Go.step (fun _ k => XS.iloadN X0.here hx rfl (hb hby d4_16) rfl k) ?_
  show Go _ _ _ _ (s₁.setTop (mkF m 17 #[.val (.ref x0), .val (.ref x1), .val (.int (2 : Int32))] [(.int (2 : Int32)), (.ref x0)]))
  refine Go.step (fun tg k => X0.baloadBytes hx (j := (2 : Int32)) (v := .int (115 : Int32)) (by rw [e0]; exact Ar0.1) (State.isArrayOf_alike hZ.alike Ar0.2.1) Ar0.2.2 (inb_of S0 ⟨by decide, by decide⟩) (H0.at (inb_of S0 ⟨by decide, by decide⟩) rfl) (g := (mkF m 17 #[.val (.ref x0), .val (.ref x1), .val (.int (2 : Int32))] [(.int (2 : Int32)), (.ref x0)])) rfl rfl (hb hby d4_17) tg k) ?_
  show Go _ _ _ _ (s₁.setTop (mkF m 18 #[.val (.ref x0), .val (.ref x1), .val (.int (2 : Int32))] [(.int (115 : Int32))]))
  refine Go.step (fun _ k => XS.aloadN X0.here hx rfl (hb hby d4_18) rfl rfl k) ?_
  show Go _ _ _ _ (s₁.setTop (mkF m 19 #[.val (.ref x0), .val (.ref x1), .val (.int (2 : Int32))] [(.ref x1), (.int (115 : Int32))]))
  refine Go.step (fun _ k => XS.iloadN X0.here hx rfl (hb hby d4_19) rfl k) ?_
  show Go _ _ _ _ (s₁.setTop (mkF m 20 #[.val (.ref x0), .val (.ref x1), .val (.int (2 : Int32))] [(.int (2 : Int32)), (.ref x1), (.int (115 : Int32))]))
  refine Go.step (fun tg k => X0.baloadBytes hx (j := (2 : Int32)) (v := .int (115 : Int32)) (by rw [e0]; exact Ar1.1) (State.isArrayOf_alike hZ.alike Ar1.2.1) Ar1.2.2 (inb_of S1 ⟨by decide, by decide⟩) (H1.at (inb_of S1 ⟨by decide, by decide⟩) rfl) (g := (mkF m 20 #[.val (.ref x0), .val (.ref x1), .val (.int (2 : Int32))] [(.int (2 : Int32)), (.ref x1), (.int (115 : Int32))])) rfl rfl (hb hby d4_20) tg k) ?_
  show Go _ _ _ _ (s₁.setTop (mkF m 21 #[.val (.ref x0), .val (.ref x1), .val (.int (2 : Int32))] [(.int (115 : Int32)), (.int (115 : Int32))]))
  refine Go.step (fun _ k => XS.icmpYes X0.here hx rfl (pc0 := 21) (pc' := 26) rfl (hb hby d4_21) rfl (teq (by decide : ((115 : Int32) = (115 : Int32)))).1 (by decide) (by decide) k) ?_
  show Go _ _ _ _ (s₁.setTop (mkF m 26 #[.val (.ref x0), .val (.ref x1), .val (.int (2 : Int32))] []))
  refine Go.step (fun _ k => XS.iinc X0.here hx rfl (hb hby d4_26) rfl (l' := #[.val (.ref x0), .val (.ref x1), .val (.int (3 : Int32))]) rfl k) ?_
  show Go _ _ _ _ (s₁.setTop (mkF m 29 #[.val (.ref x0), .val (.ref x1), .val (.int (3 : Int32))] []))
  refine Go.step (fun _ k => XS.goto X0.here hx rfl (pc0 := 29) (pc' := 9) rfl (hb hby d4_29) (by decide) (by decide) k) ?_
  show Go _ _ _ _ (s₁.setTop (mkF m 9 #[.val (.ref x0), .val (.ref x1), .val (.int (3 : Int32))] []))
  refine Go.step (fun _ k => XS.iloadN X0.here hx rfl (hb hby d4_9) rfl k) ?_
  show Go _ _ _ _ (s₁.setTop (mkF m 10 #[.val (.ref x0), .val (.ref x1), .val (.int (3 : Int32))] [(.int (3 : Int32))]))
  refine Go.step (fun _ k => XS.aloadN X0.here hx rfl (hb hby d4_10) rfl rfl k) ?_
  show Go _ _ _ _ (s₁.setTop (mkF m 11 #[.val (.ref x0), .val (.ref x1), .val (.int (3 : Int32))] [(.ref x0), (.int (3 : Int32))]))
  refine Go.step (fun tg k => X0.arraylength hx (by rw [e0]; exact Ar0.1) (State.isArrayOf_alike hZ.alike Ar0.2.1) (g := (mkF m 11 #[.val (.ref x0), .val (.ref x1), .val (.int (3 : Int32))] [(.ref x0), (.int (3 : Int32))])) rfl rfl (hb hby d4_11) tg k) ?_
  rw [SZ0]
  show Go _ _ _ _ (s₁.setTop (mkF m 12 #[.val (.ref x0), .val (.ref x1), .val (.int (3 : Int32))] [(.int (3 : Int32)), (.int (3 : Int32))]))
  refine Go.step (fun _ k => XS.icmpYes X0.here hx rfl (pc0 := 12) (pc' := 32) rfl (hb hby d4_12) rfl (flt (by decide : ¬ ((3 : Int32) < (3 : Int32)))).2.1 (by decide) (by decide) k) ?_
  show Go _ _ _ _ (s₁.setTop (mkF m 32 #[.val (.ref x0), .val (.ref x1), .val (.int (3 : Int32))] []))
  refine Go.step (fun _ k => XS.iconst X0.here hx rfl (hb hby d4_32) k) ?_
  show Go _ _ _ _ (s₁.setTop (mkF m 33 #[.val (.ref x0), .val (.ref x1), .val (.int (3 : Int32))] [(.int (1 : Int32))]))
  exact leafN X0 hx (t := .boolean) hret (by simp) hlk (w := (1 : Int32)) rfl (hb hby d4_33) ⟨rfl, e0, rfl⟩ (by decide) (by decide)
set_option maxRecDepth 65536 in
set_option maxHeartbeats 40000000 in
theorem rs_yes_yes (l : Launch) (Z : State) (a0 : Array Value) (hw : ∀ d ∈ tables_1, d.before a0 Z = true) (ws : List Jvm.Cond) (x0 : Addr) (x1 : Addr) (h0 : Heap) (F0 : Str Z h0 x0 (3 : Int32) [(.int (121 : Int32)), (.int (101 : Int32)), (.int (115 : Int32))]) (F1 : Str Z h0 x1 (3 : Int32) [(.int (121 : Int32)), (.int (101 : Int32)), (.int (115 : Int32))]) (cs : Int32) (hcs : ¬ cs = 0) (SC : Sta Z h0 "java/lang/String" "COMPACT_STRINGS" "Z" (.int cs)) : Con l Z (⟨"java/lang/String", "equals", "(Ljava/lang/Object;)Z"⟩ : MethodName) jdk_42_method_66_code 3 (some .boolean) ws ({ frames := 1, cells := 0, slots := 0, locals := 14 } : Room) #[(.ref x0), (.ref x1)] h0 (fun v h L => v = some (.int (1 : Int32)) ∧ h = h0 ∧ L = []) := by
  refine Con.of pn2 fun p e s m below meth c s₁ hZ hx hby hml hown hret hlk hnm X0 e0 => ?_
  rw [ef2]
  obtain ⟨b0, k0, EX0, FC0, FV0, A0⟩ := id F0
  obtain ⟨b1, k1, EX1, FC1, FV1, A1⟩ := id F1
  show Go _ _ _ _ (s₁.setTop (mkF m 0 #[.val (.ref x0), .val (.ref x1), .unset] []))
  refine Go.step (fun _ k => XS.aloadN X0.here hx rfl (hb hby d2_0) rfl rfl k) ?_
  show Go _ _ _ _ (s₁.setTop (mkF m 1 #[.val (.ref x0), .val (.ref x1), .unset] [(.ref x0)]))
  refine Go.step (fun _ k => XS.aloadN X0.here hx rfl (hb hby d2_1) rfl rfl k) ?_
  show Go _ _ _ _ (s₁.setTop (mkF m 2 #[.val (.ref x0), .val (.ref x1), .unset] [(.ref x1), (.ref x0)]))
  by_cases hq : x0 = x1
  · skip
    refine Go.step (fun tg k => RoadKit.acmp X0 hx rfl (x := .ref x0) (y := .ref x1) rfl rfl (pc0 := 2) (pc' := 5) (same := true) rfl (hb hby d2_2) rfl (decide_eq_true (congrArg Value.ref hq)) (by decide) rfl k) ?_
    show Go _ _ _ _ (s₁.setTop (mkF m 5 #[.val (.ref x0), .val (.ref x1), .unset] []))
    refine Go.step (fun _ k => XS.iconst X0.here hx rfl (hb hby d2_5) k) ?_
    show Go _ _ _ _ (s₁.setTop (mkF m 6 #[.val (.ref x0), .val (.ref x1), .unset] [(.int (1 : Int32))]))
    exact leafN X0 hx (t := .boolean) hret (by simp) hlk (w := (1 : Int32)) rfl (hb hby d2_6) ⟨rfl, e0, rfl⟩ (by decide) (by decide)
  refine Go.step (fun tg k => RoadKit.acmp X0 hx rfl (x := .ref x0) (y := .ref x1) rfl rfl (pc0 := 2) (pc' := 7) (same := false) rfl (hb hby d2_2) rfl (decide_eq_false fun q => hq (Value.ref.inj q)) (by decide) rfl k) ?_
  show Go _ _ _ _ (s₁.setTop (mkF m 7 #[.val (.ref x0), .val (.ref x1), .unset] []))
  refine Go.step (fun _ k => XS.aloadN X0.here hx rfl (hb hby d2_7) rfl rfl k) ?_
  show Go _ _ _ _ (s₁.setTop (mkF m 8 #[.val (.ref x0), .val (.ref x1), .unset] [(.ref x1)]))
  obtain ⟨T1, X1, e1, st1⟩ := instY X0 hx hZ hown (hw _ (List.mem_of_getElem? (i := 23) rfl)) e0 (Ins.self EX1) (g := (mkF m 8 #[.val (.ref x0), .val (.ref x1), .unset] [(.ref x1)])) rfl rfl (hb hby d2_8)
  refine Go.step st1 ?_
  show Go _ _ _ _ (T1.setTop (mkF m 11 #[.val (.ref x0), .val (.ref x1), .unset] [(.int (1 : Int32))]))
  refine Go.step (fun _ k => XS.ifNo X1.here hx rfl (hb hby d2_11) rfl ((if0 _ _).trans (feq (by decide : ¬ ((1 : Int32) = (0 : Int32)))).1) k) ?_
  show Go _ _ _ _ (T1.setTop (mkF m 14 #[.val (.ref x0), .val (.ref x1), .unset] []))
  refine Go.step (fun _ k => XS.aloadN X1.here hx rfl (hb hby d2_14) rfl rfl k) ?_
  show Go _ _ _ _ (T1.setTop (mkF m 15 #[.val (.ref x0), .val (.ref x1), .unset] [(.ref x1)]))
  obtain ⟨T2, X2, e2, st2⟩ := castY X1 hx hZ hown (hw _ (List.mem_of_getElem? (i := 23) rfl)) e1 (Ins.self EX1) (g := (mkF m 15 #[.val (.ref x0), .val (.ref x1), .unset] [(.ref x1)])) rfl rfl (hb hby d2_15)
  refine Go.step st2 ?_
  show Go _ _ _ _ (T2.setTop (mkF m 18 #[.val (.ref x0), .val (.ref x1), .unset] [(.ref x1)]))
  refine Go.step (fun _ k => XS.astoreN X2.here hx rfl (hb hby d2_18) rfl rfl (l' := #[.val (.ref x0), .val (.ref x1), .val (.ref x1)]) rfl k) ?_
  show Go _ _ _ _ (T2.setTop (mkF m 19 #[.val (.ref x0), .val (.ref x1), .val (.ref x1)] []))
  obtain ⟨T3, X3, e3, st3⟩ := getS2 X2 hx hZ hown (host := "") (Or.inl (hw _ (List.mem_of_getElem? (i := 25) rfl))) Via.refl e2 SC (g := (mkF m 19 #[.val (.ref x0), .val (.ref x1), .val (.ref x1)] [])) rfl (hb hby d2_19)
  refine Go.step st3 ?_
  show Go _ _ _ _ (T3.setTop (mkF m 22 #[.val (.ref x0), .val (.ref x1), .val (.ref x1)] [(.int cs)]))
  refine Go.step (fun _ k => XS.ifNo X3.here hx rfl (hb hby d2_22) rfl ((if0 _ _).trans (feq hcs).1) k) ?_
  show Go _ _ _ _ (T3.setTop (mkF m 25 #[.val (.ref x0), .val (.ref x1), .val (.ref x1)] []))
  refine Go.step (fun _ k => XS.aloadN X3.here hx rfl (hb hby d2_25) rfl rfl k) ?_
  show Go _ _ _ _ (T3.setTop (mkF m 26 #[.val (.ref x0), .val (.ref x1), .val (.ref x1)] [(.ref x0)]))
  obtain ⟨T4, X4, e4, st4⟩ := getF X3 hx hZ hown (host := "") (Or.inl (hw _ (List.mem_of_getElem? (i := 26) rfl))) Via.refl e3 FC0 (g := (mkF m 26 #[.val (.ref x0), .val (.ref x1), .val (.ref x1)] [(.ref x0)])) rfl rfl (hb hby d2_26)
  refine Go.step st4 ?_
  show Go _ _ _ _ (T4.setTop (mkF m 29 #[.val (.ref x0), .val (.ref x1), .val (.ref x1)] [(.int (0 : Int32))]))
  refine Go.step (fun _ k => XS.aloadN X4.here hx rfl (hb hby d2_29) rfl rfl k) ?_
  show Go _ _ _ _ (T4.setTop (mkF m 30 #[.val (.ref x0), .val (.ref x1), .val (.ref x1)] [(.ref x1), (.int (0 : Int32))]))
  obtain ⟨T5, X5, e5, st5⟩ := getF X4 hx hZ hown (host := "") (Or.inl (hw _ (List.mem_of_getElem? (i := 26) rfl))) Via.refl e4 FC1 (g := (mkF m 30 #[.val (.ref x0), .val (.ref x1), .val (.ref x1)] [(.ref x1), (.int (0 : Int32))])) rfl rfl (hb hby d2_30)
  refine Go.step st5 ?_
  show Go _ _ _ _ (T5.setTop (mkF m 33 #[.val (.ref x0), .val (.ref x1), .val (.ref x1)] [(.int (0 : Int32)), (.int (0 : Int32))]))
  refine Go.step (fun _ k => XS.icmpNo X5.here hx rfl (hb hby d2_33) rfl (teq (by decide : ((0 : Int32) = (0 : Int32)))).2 k) ?_
  show Go _ _ _ _ (T5.setTop (mkF m 36 #[.val (.ref x0), .val (.ref x1), .val (.ref x1)] []))
  refine Go.step (fun _ k => XS.aloadN X5.here hx rfl (hb hby d2_36) rfl rfl k) ?_
  show Go _ _ _ _ (T5.setTop (mkF m 37 #[.val (.ref x0), .val (.ref x1), .val (.ref x1)] [(.ref x0)]))
  obtain ⟨T6, X6, e6, st6⟩ := getF X5 hx hZ hown (host := "") (Or.inl (hw _ (List.mem_of_getElem? (i := 27) rfl))) Via.refl e5 FV0 (g := (mkF m 37 #[.val (.ref x0), .val (.ref x1), .val (.ref x1)] [(.ref x0)])) rfl rfl (hb hby d2_37)
  refine Go.step st6 ?_
  show Go _ _ _ _ (T6.setTop (mkF m 40 #[.val (.ref x0), .val (.ref x1), .val (.ref x1)] [(.ref b0)]))
  refine Go.step (fun _ k => XS.aloadN X6.here hx rfl (hb hby d2_40) rfl rfl k) ?_
  show Go _ _ _ _ (T6.setTop (mkF m 41 #[.val (.ref x0), .val (.ref x1), .val (.ref x1)] [(.ref x1), (.ref b0)]))
  obtain ⟨T7, X7, e7, st7⟩ := getF X6 hx hZ hown (host := "") (Or.inl (hw _ (List.mem_of_getElem? (i := 27) rfl))) Via.refl e6 FV1 (g := (mkF m 41 #[.val (.ref x0), .val (.ref x1), .val (.ref x1)] [(.ref x1), (.ref b0)])) rfl rfl (hb hby d2_41)
  refine Go.step st7 ?_
  show Go _ _ _ _ (T7.setTop (mkF m 44 #[.val (.ref x0), .val (.ref x1), .val (.ref x1)] [(.ref b1), (.ref b0)]))
  refine goS X7 hx hZ hown (hw _ (List.mem_of_getElem? (i := 28) rfl)) (hw _ (List.mem_of_getElem? (i := 29) rfl)) (hw _ (List.mem_of_getElem? (i := 30) rfl)) (hw _ (List.mem_of_getElem? (i := 31) rfl)) (by decide) (rl_yes_yes l Z a0 hw [] b0 b1 h0 k0 k1 A0 A1) e7 (by rw [hml]; rfl) [(.ref b0), (.ref b1)] [] rfl pd4 rfl rfl 0 rfl (hb hby d2_44) (by decide) (by decide) (by decide) (by decide) fun T8 L8 v8 q8 X8 => ?_
  obtain ⟨rfl, e8, rfl⟩ := q8
  rw [List.append_nil] at X8
  show Go _ _ _ _ (T8.setTop (mkF m 47 #[.val (.ref x0), .val (.ref x1), .val (.ref x1)] [(.int (1 : Int32))]))
  refine Go.step (fun _ k => XS.ifNo X8.here hx rfl (hb hby d2_47) rfl ((if0 _ _).trans (feq (by decide : ¬ ((1 : Int32) = (0 : Int32)))).1) k) ?_
  show Go _ _ _ _ (T8.setTop (mkF m 50 #[.val (.ref x0), .val (.ref x1), .val (.ref x1)] []))
  refine Go.step (fun _ k => XS.iconst X8.here hx rfl (hb hby d2_50) k) ?_
  show Go _ _ _ _ (T8.setTop (mkF m 51 #[.val (.ref x0), .val (.ref x1), .val (.ref x1)] [(.int (1 : Int32))]))
  refine Go.step (fun _ k => XS.goto X8.here hx rfl (pc0 := 51) (pc' := 55) rfl (hb hby d2_51) (by decide) (by decide) k) ?_
  show Go _ _ _ _ (T8.setTop (mkF m 55 #[.val (.ref x0), .val (.ref x1), .val (.ref x1)] [(.int (1 : Int32))]))
  exact leafN X8 hx (t := .boolean) hret (by simp) hlk (w := (1 : Int32)) rfl (hb hby d2_55) ⟨rfl, e8, rfl⟩ (by decide) (by decide)
set_option maxRecDepth 65536 in
set_option maxHeartbeats 40000000 in
theorem rl_no_no (l : Launch) (Z : State) (a0 : Array Value) (hw : ∀ d ∈ tables_1, d.before a0 Z = true) (ws : List Jvm.Cond) (x0 : Addr) (x1 : Addr) (h0 : Heap) (k0 k1 : ClassId) (V0 : Arv Z h0 x0 k0 .byte (2 : Int32) [(.int (110 : Int32)), (.int (111 : Int32))] (.int 0)) (V1 : Arv Z h0 x1 k1 .byte (2 : Int32) [(.int (110 : Int32)), (.int (111 : Int32))] (.int 0)) : Con l Z (⟨"java/lang/StringLatin1", "equals", "([B[B)Z"⟩ : MethodName) jdk_43_method_13_code 3 (some .boolean) ws ({ frames := 0, cells := 0, slots := 0, locals := 0 } : Room) #[(.ref x0), (.ref x1)] h0 (fun v h L => v = some (.int (1 : Int32)) ∧ h = h0 ∧ L = []) := by
  refine Con.of pn4 fun p e s m below meth c s₁ hZ hx hby hml hown hret hlk hnm X0 e0 => ?_
  rw [ef4]
  obtain ⟨cl0, Ar0, q0, S0, N0, H0, G0⟩ := V0
  have SZ0 : cl0.slots.size.toInt32 = (2 : Int32) := by rw [S0]; decide
  obtain ⟨cl1, Ar1, q1, S1, N1, H1, G1⟩ := V1
  have SZ1 : cl1.slots.size.toInt32 = (2 : Int32) := by rw [S1]; decide
  show Go _ _ _ _ (s₁.setTop (mkF m 0 #[.val (.ref x0), .val (.ref x1), .unset] []))
  refine Go.step (fun _ k => XS.aloadN X0.here hx rfl (hb hby d4_0) rfl rfl k) ?_
  show Go _ _ _ _ (s₁.setTop (mkF m 1 #[.val (.ref x0), .val (.ref x1), .unset] [(.ref x0)]))
  refine Go.step (fun tg k => X0.arraylength hx (by rw [e0]; exact Ar0.1) (State.isArrayOf_alike hZ.alike Ar0.2.1) (g := (mkF m 1 #[.val (.ref x0), .val (.ref x1), .unset] [(.ref x0)])) rfl rfl (hb hby d4_1) tg k) ?_
  rw [SZ0]
  show Go _ _ _ _ (s₁.setTop (mkF m 2 #[.val (.ref x0), .val (.ref x1), .unset] [(.int (2 : Int32))]))
  refine Go.step (fun _ k => XS.aloadN X0.here hx rfl (hb hby d4_2) rfl rfl k) ?_
  show Go _ _ _ _ (s₁.setTop (mkF m 3 #[.val (.ref x0), .val (.ref x1), .unset] [(.ref x1), (.int (2 : Int32))]))
  refine Go.step (fun tg k => X0.arraylength hx (by rw [e0]; exact Ar1.1) (State.isArrayOf_alike hZ.alike Ar1.2.1) (g := (mkF m 3 #[.val (.ref x0), .val (.ref x1), .unset] [(.ref x1), (.int (2 : Int32))])) rfl rfl (hb hby d4_3) tg k) ?_
  rw [SZ1]
  show Go _ _ _ _ (s₁.setTop (mkF m 4 #[.val (.ref x0), .val (.ref x1), .unset] [(.int (2 : Int32)), (.int (2 : Int32))]))
  refine Go.step (fun _ k => XS.icmpNo X0.here hx rfl (hb hby d4_4) rfl (teq (by decide : ((2 : Int32) = (2 : Int32)))).2 k) ?_
  show Go _ _ _ _ (s₁.setTop (mkF m 7 #[.val (.ref x0), .val (.ref x1), .unset] []))
  refine Go.step (fun _ k => XS.iconst X0.here hx rfl (hb hby d4_7) k) ?_
  show Go _ _ _ _ (s₁.setTop (mkF m 8 #[.val (.ref x0), .val (.ref x1), .unset] [(.int (0 : Int32))]))
  refine Go.step (fun _ k => XS.istoreN X0.here hx rfl (hb hby d4_8) rfl (l' := #[.val (.ref x0), .val (.ref x1), .val (.int (0 : Int32))]) rfl k) ?_
  show Go _ _ _ _ (s₁.setTop (mkF m 9 #[.val (.ref x0), .val (.ref x1), .val (.int (0 : Int32))] []))
  refine Go.step (fun _ k => XS.iloadN X0.here hx rfl (hb hby d4_9) rfl k) ?_
  show Go _ _ _ _ (s₁.setTop (mkF m 10 #[.val (.ref x0), .val (.ref x1), .val (.int (0 : Int32))] [(.int (0 : Int32))]))
  refine Go.step (fun _ k => XS.aloadN X0.here hx rfl (hb hby d4_10) rfl rfl k) ?_
  show Go _ _ _ _ (s₁.setTop (mkF m 11 #[.val (.ref x0), .val (.ref x1), .val (.int (0 : Int32))] [(.ref x0), (.int (0 : Int32))]))
  refine Go.step (fun tg k => X0.arraylength hx (by rw [e0]; exact Ar0.1) (State.isArrayOf_alike hZ.alike Ar0.2.1) (g := (mkF m 11 #[.val (.ref x0), .val (.ref x1), .val (.int (0 : Int32))] [(.ref x0), (.int (0 : Int32))])) rfl rfl (hb hby d4_11) tg k) ?_
  rw [SZ0]
  show Go _ _ _ _ (s₁.setTop (mkF m 12 #[.val (.ref x0), .val (.ref x1), .val (.int (0 : Int32))] [(.int (2 : Int32)), (.int (0 : Int32))]))
  refine Go.step (fun _ k => XS.icmpNo X0.here hx rfl (hb hby d4_12) rfl (tlt (by decide : ((0 : Int32) < (2 : Int32)))).2.1 k) ?_
  show Go _ _ _ _ (s₁.setTop (mkF m 15 #[.val (.ref x0), .val (.ref x1), .val (.int (0 : Int32))] []))
  refine Go.step (fun _ k => XS.aloadN X0.here hx rfl (hb hby d4_15) rfl rfl k) ?_
  show Go _ _ _ _ (s₁.setTop (mkF m 16 #[.val (.ref x0), .val (.ref x1), .val (.int (0 : Int32))] [(.ref x0)]))
  refine Go.step (fun _ k => XS.iloadN X0.here hx rfl (hb hby d4_16) rfl k) ?_
  show Go _ _ _ _ (s₁.setTop (mkF m 17 #[.val (.ref x0), .val (.ref x1), .val (.int (0 : Int32))] [(.int (0 : Int32)), (.ref x0)]))
  refine Go.step (fun tg k => X0.baloadBytes hx (j := (0 : Int32)) (v := .int (110 : Int32)) (by rw [e0]; exact Ar0.1) (State.isArrayOf_alike hZ.alike Ar0.2.1) Ar0.2.2 (inb_of S0 ⟨by decide, by decide⟩) (H0.at (inb_of S0 ⟨by decide, by decide⟩) rfl) (g := (mkF m 17 #[.val (.ref x0), .val (.ref x1), .val (.int (0 : Int32))] [(.int (0 : Int32)), (.ref x0)])) rfl rfl (hb hby d4_17) tg k) ?_
  show Go _ _ _ _ (s₁.setTop (mkF m 18 #[.val (.ref x0), .val (.ref x1), .val (.int (0 : Int32))] [(.int (110 : Int32))]))
  refine Go.step (fun _ k => XS.aloadN X0.here hx rfl (hb hby d4_18) rfl rfl k) ?_
  show Go _ _ _ _ (s₁.setTop (mkF m 19 #[.val (.ref x0), .val (.ref x1), .val (.int (0 : Int32))] [(.ref x1), (.int (110 : Int32))]))
  refine Go.step (fun _ k => XS.iloadN X0.here hx rfl (hb hby d4_19) rfl k) ?_
  show Go _ _ _ _ (s₁.setTop (mkF m 20 #[.val (.ref x0), .val (.ref x1), .val (.int (0 : Int32))] [(.int (0 : Int32)), (.ref x1), (.int (110 : Int32))]))
  refine Go.step (fun tg k => X0.baloadBytes hx (j := (0 : Int32)) (v := .int (110 : Int32)) (by rw [e0]; exact Ar1.1) (State.isArrayOf_alike hZ.alike Ar1.2.1) Ar1.2.2 (inb_of S1 ⟨by decide, by decide⟩) (H1.at (inb_of S1 ⟨by decide, by decide⟩) rfl) (g := (mkF m 20 #[.val (.ref x0), .val (.ref x1), .val (.int (0 : Int32))] [(.int (0 : Int32)), (.ref x1), (.int (110 : Int32))])) rfl rfl (hb hby d4_20) tg k) ?_
  show Go _ _ _ _ (s₁.setTop (mkF m 21 #[.val (.ref x0), .val (.ref x1), .val (.int (0 : Int32))] [(.int (110 : Int32)), (.int (110 : Int32))]))
  refine Go.step (fun _ k => XS.icmpYes X0.here hx rfl (pc0 := 21) (pc' := 26) rfl (hb hby d4_21) rfl (teq (by decide : ((110 : Int32) = (110 : Int32)))).1 (by decide) (by decide) k) ?_
  show Go _ _ _ _ (s₁.setTop (mkF m 26 #[.val (.ref x0), .val (.ref x1), .val (.int (0 : Int32))] []))
  refine Go.step (fun _ k => XS.iinc X0.here hx rfl (hb hby d4_26) rfl (l' := #[.val (.ref x0), .val (.ref x1), .val (.int (1 : Int32))]) rfl k) ?_
  show Go _ _ _ _ (s₁.setTop (mkF m 29 #[.val (.ref x0), .val (.ref x1), .val (.int (1 : Int32))] []))
  refine Go.step (fun _ k => XS.goto X0.here hx rfl (pc0 := 29) (pc' := 9) rfl (hb hby d4_29) (by decide) (by decide) k) ?_
  show Go _ _ _ _ (s₁.setTop (mkF m 9 #[.val (.ref x0), .val (.ref x1), .val (.int (1 : Int32))] []))
  refine Go.step (fun _ k => XS.iloadN X0.here hx rfl (hb hby d4_9) rfl k) ?_
  show Go _ _ _ _ (s₁.setTop (mkF m 10 #[.val (.ref x0), .val (.ref x1), .val (.int (1 : Int32))] [(.int (1 : Int32))]))
  refine Go.step (fun _ k => XS.aloadN X0.here hx rfl (hb hby d4_10) rfl rfl k) ?_
  show Go _ _ _ _ (s₁.setTop (mkF m 11 #[.val (.ref x0), .val (.ref x1), .val (.int (1 : Int32))] [(.ref x0), (.int (1 : Int32))]))
  refine Go.step (fun tg k => X0.arraylength hx (by rw [e0]; exact Ar0.1) (State.isArrayOf_alike hZ.alike Ar0.2.1) (g := (mkF m 11 #[.val (.ref x0), .val (.ref x1), .val (.int (1 : Int32))] [(.ref x0), (.int (1 : Int32))])) rfl rfl (hb hby d4_11) tg k) ?_
  rw [SZ0]
  show Go _ _ _ _ (s₁.setTop (mkF m 12 #[.val (.ref x0), .val (.ref x1), .val (.int (1 : Int32))] [(.int (2 : Int32)), (.int (1 : Int32))]))
  refine Go.step (fun _ k => XS.icmpNo X0.here hx rfl (hb hby d4_12) rfl (tlt (by decide : ((1 : Int32) < (2 : Int32)))).2.1 k) ?_
  show Go _ _ _ _ (s₁.setTop (mkF m 15 #[.val (.ref x0), .val (.ref x1), .val (.int (1 : Int32))] []))
  refine Go.step (fun _ k => XS.aloadN X0.here hx rfl (hb hby d4_15) rfl rfl k) ?_
  show Go _ _ _ _ (s₁.setTop (mkF m 16 #[.val (.ref x0), .val (.ref x1), .val (.int (1 : Int32))] [(.ref x0)]))
  refine Go.step (fun _ k => XS.iloadN X0.here hx rfl (hb hby d4_16) rfl k) ?_
  show Go _ _ _ _ (s₁.setTop (mkF m 17 #[.val (.ref x0), .val (.ref x1), .val (.int (1 : Int32))] [(.int (1 : Int32)), (.ref x0)]))
  refine Go.step (fun tg k => X0.baloadBytes hx (j := (1 : Int32)) (v := .int (111 : Int32)) (by rw [e0]; exact Ar0.1) (State.isArrayOf_alike hZ.alike Ar0.2.1) Ar0.2.2 (inb_of S0 ⟨by decide, by decide⟩) (H0.at (inb_of S0 ⟨by decide, by decide⟩) rfl) (g := (mkF m 17 #[.val (.ref x0), .val (.ref x1), .val (.int (1 : Int32))] [(.int (1 : Int32)), (.ref x0)])) rfl rfl (hb hby d4_17) tg k) ?_
  show Go _ _ _ _ (s₁.setTop (mkF m 18 #[.val (.ref x0), .val (.ref x1), .val (.int (1 : Int32))] [(.int (111 : Int32))]))
  refine Go.step (fun _ k => XS.aloadN X0.here hx rfl (hb hby d4_18) rfl rfl k) ?_
  show Go _ _ _ _ (s₁.setTop (mkF m 19 #[.val (.ref x0), .val (.ref x1), .val (.int (1 : Int32))] [(.ref x1), (.int (111 : Int32))]))
  refine Go.step (fun _ k => XS.iloadN X0.here hx rfl (hb hby d4_19) rfl k) ?_
  show Go _ _ _ _ (s₁.setTop (mkF m 20 #[.val (.ref x0), .val (.ref x1), .val (.int (1 : Int32))] [(.int (1 : Int32)), (.ref x1), (.int (111 : Int32))]))
  refine Go.step (fun tg k => X0.baloadBytes hx (j := (1 : Int32)) (v := .int (111 : Int32)) (by rw [e0]; exact Ar1.1) (State.isArrayOf_alike hZ.alike Ar1.2.1) Ar1.2.2 (inb_of S1 ⟨by decide, by decide⟩) (H1.at (inb_of S1 ⟨by decide, by decide⟩) rfl) (g := (mkF m 20 #[.val (.ref x0), .val (.ref x1), .val (.int (1 : Int32))] [(.int (1 : Int32)), (.ref x1), (.int (111 : Int32))])) rfl rfl (hb hby d4_20) tg k) ?_
  show Go _ _ _ _ (s₁.setTop (mkF m 21 #[.val (.ref x0), .val (.ref x1), .val (.int (1 : Int32))] [(.int (111 : Int32)), (.int (111 : Int32))]))
  refine Go.step (fun _ k => XS.icmpYes X0.here hx rfl (pc0 := 21) (pc' := 26) rfl (hb hby d4_21) rfl (teq (by decide : ((111 : Int32) = (111 : Int32)))).1 (by decide) (by decide) k) ?_
  show Go _ _ _ _ (s₁.setTop (mkF m 26 #[.val (.ref x0), .val (.ref x1), .val (.int (1 : Int32))] []))
  refine Go.step (fun _ k => XS.iinc X0.here hx rfl (hb hby d4_26) rfl (l' := #[.val (.ref x0), .val (.ref x1), .val (.int (2 : Int32))]) rfl k) ?_
  show Go _ _ _ _ (s₁.setTop (mkF m 29 #[.val (.ref x0), .val (.ref x1), .val (.int (2 : Int32))] []))
  refine Go.step (fun _ k => XS.goto X0.here hx rfl (pc0 := 29) (pc' := 9) rfl (hb hby d4_29) (by decide) (by decide) k) ?_
  show Go _ _ _ _ (s₁.setTop (mkF m 9 #[.val (.ref x0), .val (.ref x1), .val (.int (2 : Int32))] []))
  refine Go.step (fun _ k => XS.iloadN X0.here hx rfl (hb hby d4_9) rfl k) ?_
  show Go _ _ _ _ (s₁.setTop (mkF m 10 #[.val (.ref x0), .val (.ref x1), .val (.int (2 : Int32))] [(.int (2 : Int32))]))
  refine Go.step (fun _ k => XS.aloadN X0.here hx rfl (hb hby d4_10) rfl rfl k) ?_
  show Go _ _ _ _ (s₁.setTop (mkF m 11 #[.val (.ref x0), .val (.ref x1), .val (.int (2 : Int32))] [(.ref x0), (.int (2 : Int32))]))
  refine Go.step (fun tg k => X0.arraylength hx (by rw [e0]; exact Ar0.1) (State.isArrayOf_alike hZ.alike Ar0.2.1) (g := (mkF m 11 #[.val (.ref x0), .val (.ref x1), .val (.int (2 : Int32))] [(.ref x0), (.int (2 : Int32))])) rfl rfl (hb hby d4_11) tg k) ?_
  rw [SZ0]
  show Go _ _ _ _ (s₁.setTop (mkF m 12 #[.val (.ref x0), .val (.ref x1), .val (.int (2 : Int32))] [(.int (2 : Int32)), (.int (2 : Int32))]))
  refine Go.step (fun _ k => XS.icmpYes X0.here hx rfl (pc0 := 12) (pc' := 32) rfl (hb hby d4_12) rfl (flt (by decide : ¬ ((2 : Int32) < (2 : Int32)))).2.1 (by decide) (by decide) k) ?_
  show Go _ _ _ _ (s₁.setTop (mkF m 32 #[.val (.ref x0), .val (.ref x1), .val (.int (2 : Int32))] []))
  refine Go.step (fun _ k => XS.iconst X0.here hx rfl (hb hby d4_32) k) ?_
  show Go _ _ _ _ (s₁.setTop (mkF m 33 #[.val (.ref x0), .val (.ref x1), .val (.int (2 : Int32))] [(.int (1 : Int32))]))
  exact leafN X0 hx (t := .boolean) hret (by simp) hlk (w := (1 : Int32)) rfl (hb hby d4_33) ⟨rfl, e0, rfl⟩ (by decide) (by decide)
set_option maxRecDepth 65536 in
set_option maxHeartbeats 40000000 in
theorem rs_no_no (l : Launch) (Z : State) (a0 : Array Value) (hw : ∀ d ∈ tables_1, d.before a0 Z = true) (ws : List Jvm.Cond) (x0 : Addr) (x1 : Addr) (h0 : Heap) (F0 : Str Z h0 x0 (2 : Int32) [(.int (110 : Int32)), (.int (111 : Int32))]) (F1 : Str Z h0 x1 (2 : Int32) [(.int (110 : Int32)), (.int (111 : Int32))]) (cs : Int32) (hcs : ¬ cs = 0) (SC : Sta Z h0 "java/lang/String" "COMPACT_STRINGS" "Z" (.int cs)) : Con l Z (⟨"java/lang/String", "equals", "(Ljava/lang/Object;)Z"⟩ : MethodName) jdk_42_method_66_code 3 (some .boolean) ws ({ frames := 1, cells := 0, slots := 0, locals := 14 } : Room) #[(.ref x0), (.ref x1)] h0 (fun v h L => v = some (.int (1 : Int32)) ∧ h = h0 ∧ L = []) := by
  refine Con.of pn2 fun p e s m below meth c s₁ hZ hx hby hml hown hret hlk hnm X0 e0 => ?_
  rw [ef2]
  obtain ⟨b0, k0, EX0, FC0, FV0, A0⟩ := id F0
  obtain ⟨b1, k1, EX1, FC1, FV1, A1⟩ := id F1
  show Go _ _ _ _ (s₁.setTop (mkF m 0 #[.val (.ref x0), .val (.ref x1), .unset] []))
  refine Go.step (fun _ k => XS.aloadN X0.here hx rfl (hb hby d2_0) rfl rfl k) ?_
  show Go _ _ _ _ (s₁.setTop (mkF m 1 #[.val (.ref x0), .val (.ref x1), .unset] [(.ref x0)]))
  refine Go.step (fun _ k => XS.aloadN X0.here hx rfl (hb hby d2_1) rfl rfl k) ?_
  show Go _ _ _ _ (s₁.setTop (mkF m 2 #[.val (.ref x0), .val (.ref x1), .unset] [(.ref x1), (.ref x0)]))
  by_cases hq : x0 = x1
  · skip
    refine Go.step (fun tg k => RoadKit.acmp X0 hx rfl (x := .ref x0) (y := .ref x1) rfl rfl (pc0 := 2) (pc' := 5) (same := true) rfl (hb hby d2_2) rfl (decide_eq_true (congrArg Value.ref hq)) (by decide) rfl k) ?_
    show Go _ _ _ _ (s₁.setTop (mkF m 5 #[.val (.ref x0), .val (.ref x1), .unset] []))
    refine Go.step (fun _ k => XS.iconst X0.here hx rfl (hb hby d2_5) k) ?_
    show Go _ _ _ _ (s₁.setTop (mkF m 6 #[.val (.ref x0), .val (.ref x1), .unset] [(.int (1 : Int32))]))
    exact leafN X0 hx (t := .boolean) hret (by simp) hlk (w := (1 : Int32)) rfl (hb hby d2_6) ⟨rfl, e0, rfl⟩ (by decide) (by decide)
  refine Go.step (fun tg k => RoadKit.acmp X0 hx rfl (x := .ref x0) (y := .ref x1) rfl rfl (pc0 := 2) (pc' := 7) (same := false) rfl (hb hby d2_2) rfl (decide_eq_false fun q => hq (Value.ref.inj q)) (by decide) rfl k) ?_
  show Go _ _ _ _ (s₁.setTop (mkF m 7 #[.val (.ref x0), .val (.ref x1), .unset] []))
  refine Go.step (fun _ k => XS.aloadN X0.here hx rfl (hb hby d2_7) rfl rfl k) ?_
  show Go _ _ _ _ (s₁.setTop (mkF m 8 #[.val (.ref x0), .val (.ref x1), .unset] [(.ref x1)]))
  obtain ⟨T1, X1, e1, st1⟩ := instY X0 hx hZ hown (hw _ (List.mem_of_getElem? (i := 23) rfl)) e0 (Ins.self EX1) (g := (mkF m 8 #[.val (.ref x0), .val (.ref x1), .unset] [(.ref x1)])) rfl rfl (hb hby d2_8)
  refine Go.step st1 ?_
  show Go _ _ _ _ (T1.setTop (mkF m 11 #[.val (.ref x0), .val (.ref x1), .unset] [(.int (1 : Int32))]))
  refine Go.step (fun _ k => XS.ifNo X1.here hx rfl (hb hby d2_11) rfl ((if0 _ _).trans (feq (by decide : ¬ ((1 : Int32) = (0 : Int32)))).1) k) ?_
  show Go _ _ _ _ (T1.setTop (mkF m 14 #[.val (.ref x0), .val (.ref x1), .unset] []))
  refine Go.step (fun _ k => XS.aloadN X1.here hx rfl (hb hby d2_14) rfl rfl k) ?_
  show Go _ _ _ _ (T1.setTop (mkF m 15 #[.val (.ref x0), .val (.ref x1), .unset] [(.ref x1)]))
  obtain ⟨T2, X2, e2, st2⟩ := castY X1 hx hZ hown (hw _ (List.mem_of_getElem? (i := 23) rfl)) e1 (Ins.self EX1) (g := (mkF m 15 #[.val (.ref x0), .val (.ref x1), .unset] [(.ref x1)])) rfl rfl (hb hby d2_15)
  refine Go.step st2 ?_
  show Go _ _ _ _ (T2.setTop (mkF m 18 #[.val (.ref x0), .val (.ref x1), .unset] [(.ref x1)]))
  refine Go.step (fun _ k => XS.astoreN X2.here hx rfl (hb hby d2_18) rfl rfl (l' := #[.val (.ref x0), .val (.ref x1), .val (.ref x1)]) rfl k) ?_
  show Go _ _ _ _ (T2.setTop (mkF m 19 #[.val (.ref x0), .val (.ref x1), .val (.ref x1)] []))
  obtain ⟨T3, X3, e3, st3⟩ := getS2 X2 hx hZ hown (host := "") (Or.inl (hw _ (List.mem_of_getElem? (i := 25) rfl))) Via.refl e2 SC (g := (mkF m 19 #[.val (.ref x0), .val (.ref x1), .val (.ref x1)] [])) rfl (hb hby d2_19)
  refine Go.step st3 ?_
  show Go _ _ _ _ (T3.setTop (mkF m 22 #[.val (.ref x0), .val (.ref x1), .val (.ref x1)] [(.int cs)]))
  refine Go.step (fun _ k => XS.ifNo X3.here hx rfl (hb hby d2_22) rfl ((if0 _ _).trans (feq hcs).1) k) ?_
  show Go _ _ _ _ (T3.setTop (mkF m 25 #[.val (.ref x0), .val (.ref x1), .val (.ref x1)] []))
  refine Go.step (fun _ k => XS.aloadN X3.here hx rfl (hb hby d2_25) rfl rfl k) ?_
  show Go _ _ _ _ (T3.setTop (mkF m 26 #[.val (.ref x0), .val (.ref x1), .val (.ref x1)] [(.ref x0)]))
  obtain ⟨T4, X4, e4, st4⟩ := getF X3 hx hZ hown (host := "") (Or.inl (hw _ (List.mem_of_getElem? (i := 26) rfl))) Via.refl e3 FC0 (g := (mkF m 26 #[.val (.ref x0), .val (.ref x1), .val (.ref x1)] [(.ref x0)])) rfl rfl (hb hby d2_26)
  refine Go.step st4 ?_
  show Go _ _ _ _ (T4.setTop (mkF m 29 #[.val (.ref x0), .val (.ref x1), .val (.ref x1)] [(.int (0 : Int32))]))
  refine Go.step (fun _ k => XS.aloadN X4.here hx rfl (hb hby d2_29) rfl rfl k) ?_
  show Go _ _ _ _ (T4.setTop (mkF m 30 #[.val (.ref x0), .val (.ref x1), .val (.ref x1)] [(.ref x1), (.int (0 : Int32))]))
  obtain ⟨T5, X5, e5, st5⟩ := getF X4 hx hZ hown (host := "") (Or.inl (hw _ (List.mem_of_getElem? (i := 26) rfl))) Via.refl e4 FC1 (g := (mkF m 30 #[.val (.ref x0), .val (.ref x1), .val (.ref x1)] [(.ref x1), (.int (0 : Int32))])) rfl rfl (hb hby d2_30)
  refine Go.step st5 ?_
  show Go _ _ _ _ (T5.setTop (mkF m 33 #[.val (.ref x0), .val (.ref x1), .val (.ref x1)] [(.int (0 : Int32)), (.int (0 : Int32))]))
  refine Go.step (fun _ k => XS.icmpNo X5.here hx rfl (hb hby d2_33) rfl (teq (by decide : ((0 : Int32) = (0 : Int32)))).2 k) ?_
  show Go _ _ _ _ (T5.setTop (mkF m 36 #[.val (.ref x0), .val (.ref x1), .val (.ref x1)] []))
  refine Go.step (fun _ k => XS.aloadN X5.here hx rfl (hb hby d2_36) rfl rfl k) ?_
  show Go _ _ _ _ (T5.setTop (mkF m 37 #[.val (.ref x0), .val (.ref x1), .val (.ref x1)] [(.ref x0)]))
  obtain ⟨T6, X6, e6, st6⟩ := getF X5 hx hZ hown (host := "") (Or.inl (hw _ (List.mem_of_getElem? (i := 27) rfl))) Via.refl e5 FV0 (g := (mkF m 37 #[.val (.ref x0), .val (.ref x1), .val (.ref x1)] [(.ref x0)])) rfl rfl (hb hby d2_37)
  refine Go.step st6 ?_
  show Go _ _ _ _ (T6.setTop (mkF m 40 #[.val (.ref x0), .val (.ref x1), .val (.ref x1)] [(.ref b0)]))
  refine Go.step (fun _ k => XS.aloadN X6.here hx rfl (hb hby d2_40) rfl rfl k) ?_
  show Go _ _ _ _ (T6.setTop (mkF m 41 #[.val (.ref x0), .val (.ref x1), .val (.ref x1)] [(.ref x1), (.ref b0)]))
  obtain ⟨T7, X7, e7, st7⟩ := getF X6 hx hZ hown (host := "") (Or.inl (hw _ (List.mem_of_getElem? (i := 27) rfl))) Via.refl e6 FV1 (g := (mkF m 41 #[.val (.ref x0), .val (.ref x1), .val (.ref x1)] [(.ref x1), (.ref b0)])) rfl rfl (hb hby d2_41)
  refine Go.step st7 ?_
  show Go _ _ _ _ (T7.setTop (mkF m 44 #[.val (.ref x0), .val (.ref x1), .val (.ref x1)] [(.ref b1), (.ref b0)]))
  refine goS X7 hx hZ hown (hw _ (List.mem_of_getElem? (i := 28) rfl)) (hw _ (List.mem_of_getElem? (i := 29) rfl)) (hw _ (List.mem_of_getElem? (i := 30) rfl)) (hw _ (List.mem_of_getElem? (i := 31) rfl)) (by decide) (rl_no_no l Z a0 hw [] b0 b1 h0 k0 k1 A0 A1) e7 (by rw [hml]; rfl) [(.ref b0), (.ref b1)] [] rfl pd4 rfl rfl 0 rfl (hb hby d2_44) (by decide) (by decide) (by decide) (by decide) fun T8 L8 v8 q8 X8 => ?_
  obtain ⟨rfl, e8, rfl⟩ := q8
  rw [List.append_nil] at X8
  show Go _ _ _ _ (T8.setTop (mkF m 47 #[.val (.ref x0), .val (.ref x1), .val (.ref x1)] [(.int (1 : Int32))]))
  refine Go.step (fun _ k => XS.ifNo X8.here hx rfl (hb hby d2_47) rfl ((if0 _ _).trans (feq (by decide : ¬ ((1 : Int32) = (0 : Int32)))).1) k) ?_
  show Go _ _ _ _ (T8.setTop (mkF m 50 #[.val (.ref x0), .val (.ref x1), .val (.ref x1)] []))
  refine Go.step (fun _ k => XS.iconst X8.here hx rfl (hb hby d2_50) k) ?_
  show Go _ _ _ _ (T8.setTop (mkF m 51 #[.val (.ref x0), .val (.ref x1), .val (.ref x1)] [(.int (1 : Int32))]))
  refine Go.step (fun _ k => XS.goto X8.here hx rfl (pc0 := 51) (pc' := 55) rfl (hb hby d2_51) (by decide) (by decide) k) ?_
  show Go _ _ _ _ (T8.setTop (mkF m 55 #[.val (.ref x0), .val (.ref x1), .val (.ref x1)] [(.int (1 : Int32))]))
  exact leafN X8 hx (t := .boolean) hret (by simp) hlk (w := (1 : Int32)) rfl (hb hby d2_55) ⟨rfl, e8, rfl⟩ (by decide) (by decide)
set_option maxRecDepth 65536 in
set_option maxHeartbeats 40000000 in
theorem rl_no_yes (l : Launch) (Z : State) (a0 : Array Value) (hw : ∀ d ∈ tables_1, d.before a0 Z = true) (ws : List Jvm.Cond) (x0 : Addr) (x1 : Addr) (h0 : Heap) (k0 k1 : ClassId) (V0 : Arv Z h0 x0 k0 .byte (2 : Int32) [(.int (110 : Int32)), (.int (111 : Int32))] (.int 0)) (V1 : Arv Z h0 x1 k1 .byte (3 : Int32) [(.int (121 : Int32)), (.int (101 : Int32)), (.int (115 : Int32))] (.int 0)) : Con l Z (⟨"java/lang/StringLatin1", "equals", "([B[B)Z"⟩ : MethodName) jdk_43_method_13_code 3 (some .boolean) ws ({ frames := 0, cells := 0, slots := 0, locals := 0 } : Room) #[(.ref x0), (.ref x1)] h0 (fun v h L => v = some (.int (0 : Int32)) ∧ h = h0 ∧ L = []) := by
  refine Con.of pn4 fun p e s m below meth c s₁ hZ hx hby hml hown hret hlk hnm X0 e0 => ?_
  rw [ef4]
  obtain ⟨cl0, Ar0, q0, S0, N0, H0, G0⟩ := V0
  have SZ0 : cl0.slots.size.toInt32 = (2 : Int32) := by rw [S0]; decide
  obtain ⟨cl1, Ar1, q1, S1, N1, H1, G1⟩ := V1
  have SZ1 : cl1.slots.size.toInt32 = (3 : Int32) := by rw [S1]; decide
  show Go _ _ _ _ (s₁.setTop (mkF m 0 #[.val (.ref x0), .val (.ref x1), .unset] []))
  refine Go.step (fun _ k => XS.aloadN X0.here hx rfl (hb hby d4_0) rfl rfl k) ?_
  show Go _ _ _ _ (s₁.setTop (mkF m 1 #[.val (.ref x0), .val (.ref x1), .unset] [(.ref x0)]))
  refine Go.step (fun tg k => X0.arraylength hx (by rw [e0]; exact Ar0.1) (State.isArrayOf_alike hZ.alike Ar0.2.1) (g := (mkF m 1 #[.val (.ref x0), .val (.ref x1), .unset] [(.ref x0)])) rfl rfl (hb hby d4_1) tg k) ?_
  rw [SZ0]
  show Go _ _ _ _ (s₁.setTop (mkF m 2 #[.val (.ref x0), .val (.ref x1), .unset] [(.int (2 : Int32))]))
  refine Go.step (fun _ k => XS.aloadN X0.here hx rfl (hb hby d4_2) rfl rfl k) ?_
  show Go _ _ _ _ (s₁.setTop (mkF m 3 #[.val (.ref x0), .val (.ref x1), .unset] [(.ref x1), (.int (2 : Int32))]))
  refine Go.step (fun tg k => X0.arraylength hx (by rw [e0]; exact Ar1.1) (State.isArrayOf_alike hZ.alike Ar1.2.1) (g := (mkF m 3 #[.val (.ref x0), .val (.ref x1), .unset] [(.ref x1), (.int (2 : Int32))])) rfl rfl (hb hby d4_3) tg k) ?_
  rw [SZ1]
  show Go _ _ _ _ (s₁.setTop (mkF m 4 #[.val (.ref x0), .val (.ref x1), .unset] [(.int (3 : Int32)), (.int (2 : Int32))]))
  refine Go.step (fun _ k => XS.icmpYes X0.here hx rfl (pc0 := 4) (pc' := 34) rfl (hb hby d4_4) rfl (feq (by decide : ¬ ((2 : Int32) = (3 : Int32)))).2 (by decide) (by decide) k) ?_
  show Go _ _ _ _ (s₁.setTop (mkF m 34 #[.val (.ref x0), .val (.ref x1), .unset] []))
  refine Go.step (fun _ k => XS.iconst X0.here hx rfl (hb hby d4_34) k) ?_
  show Go _ _ _ _ (s₁.setTop (mkF m 35 #[.val (.ref x0), .val (.ref x1), .unset] [(.int (0 : Int32))]))
  exact leafN X0 hx (t := .boolean) hret (by simp) hlk (w := (0 : Int32)) rfl (hb hby d4_35) ⟨rfl, e0, rfl⟩ (by decide) (by decide)
set_option maxRecDepth 65536 in
set_option maxHeartbeats 40000000 in
theorem rs_no_yes (l : Launch) (Z : State) (a0 : Array Value) (hw : ∀ d ∈ tables_1, d.before a0 Z = true) (ws : List Jvm.Cond) (x0 : Addr) (x1 : Addr) (h0 : Heap) (F0 : Str Z h0 x0 (2 : Int32) [(.int (110 : Int32)), (.int (111 : Int32))]) (F1 : Str Z h0 x1 (3 : Int32) [(.int (121 : Int32)), (.int (101 : Int32)), (.int (115 : Int32))]) (cs : Int32) (hcs : ¬ cs = 0) (SC : Sta Z h0 "java/lang/String" "COMPACT_STRINGS" "Z" (.int cs)) : Con l Z (⟨"java/lang/String", "equals", "(Ljava/lang/Object;)Z"⟩ : MethodName) jdk_42_method_66_code 3 (some .boolean) ws ({ frames := 1, cells := 0, slots := 0, locals := 14 } : Room) #[(.ref x0), (.ref x1)] h0 (fun v h L => v = some (.int (0 : Int32)) ∧ h = h0 ∧ L = []) := by
  refine Con.of pn2 fun p e s m below meth c s₁ hZ hx hby hml hown hret hlk hnm X0 e0 => ?_
  rw [ef2]
  obtain ⟨b0, k0, EX0, FC0, FV0, A0⟩ := id F0
  obtain ⟨b1, k1, EX1, FC1, FV1, A1⟩ := id F1
  show Go _ _ _ _ (s₁.setTop (mkF m 0 #[.val (.ref x0), .val (.ref x1), .unset] []))
  refine Go.step (fun _ k => XS.aloadN X0.here hx rfl (hb hby d2_0) rfl rfl k) ?_
  show Go _ _ _ _ (s₁.setTop (mkF m 1 #[.val (.ref x0), .val (.ref x1), .unset] [(.ref x0)]))
  refine Go.step (fun _ k => XS.aloadN X0.here hx rfl (hb hby d2_1) rfl rfl k) ?_
  show Go _ _ _ _ (s₁.setTop (mkF m 2 #[.val (.ref x0), .val (.ref x1), .unset] [(.ref x1), (.ref x0)]))
  have ne : ¬ x0 = x1 := fun q => by rw [q] at F0; exact absurd (str_one F0 F1) (by decide)
  refine Go.step (fun tg k => RoadKit.acmp X0 hx rfl (x := .ref x0) (y := .ref x1) rfl rfl (pc0 := 2) (pc' := 7) (same := false) rfl (hb hby d2_2) rfl (decide_eq_false fun q => ne (Value.ref.inj q)) (by decide) rfl k) ?_
  show Go _ _ _ _ (s₁.setTop (mkF m 7 #[.val (.ref x0), .val (.ref x1), .unset] []))
  refine Go.step (fun _ k => XS.aloadN X0.here hx rfl (hb hby d2_7) rfl rfl k) ?_
  show Go _ _ _ _ (s₁.setTop (mkF m 8 #[.val (.ref x0), .val (.ref x1), .unset] [(.ref x1)]))
  obtain ⟨T1, X1, e1, st1⟩ := instY X0 hx hZ hown (hw _ (List.mem_of_getElem? (i := 23) rfl)) e0 (Ins.self EX1) (g := (mkF m 8 #[.val (.ref x0), .val (.ref x1), .unset] [(.ref x1)])) rfl rfl (hb hby d2_8)
  refine Go.step st1 ?_
  show Go _ _ _ _ (T1.setTop (mkF m 11 #[.val (.ref x0), .val (.ref x1), .unset] [(.int (1 : Int32))]))
  refine Go.step (fun _ k => XS.ifNo X1.here hx rfl (hb hby d2_11) rfl ((if0 _ _).trans (feq (by decide : ¬ ((1 : Int32) = (0 : Int32)))).1) k) ?_
  show Go _ _ _ _ (T1.setTop (mkF m 14 #[.val (.ref x0), .val (.ref x1), .unset] []))
  refine Go.step (fun _ k => XS.aloadN X1.here hx rfl (hb hby d2_14) rfl rfl k) ?_
  show Go _ _ _ _ (T1.setTop (mkF m 15 #[.val (.ref x0), .val (.ref x1), .unset] [(.ref x1)]))
  obtain ⟨T2, X2, e2, st2⟩ := castY X1 hx hZ hown (hw _ (List.mem_of_getElem? (i := 23) rfl)) e1 (Ins.self EX1) (g := (mkF m 15 #[.val (.ref x0), .val (.ref x1), .unset] [(.ref x1)])) rfl rfl (hb hby d2_15)
  refine Go.step st2 ?_
  show Go _ _ _ _ (T2.setTop (mkF m 18 #[.val (.ref x0), .val (.ref x1), .unset] [(.ref x1)]))
  refine Go.step (fun _ k => XS.astoreN X2.here hx rfl (hb hby d2_18) rfl rfl (l' := #[.val (.ref x0), .val (.ref x1), .val (.ref x1)]) rfl k) ?_
  show Go _ _ _ _ (T2.setTop (mkF m 19 #[.val (.ref x0), .val (.ref x1), .val (.ref x1)] []))
  obtain ⟨T3, X3, e3, st3⟩ := getS2 X2 hx hZ hown (host := "") (Or.inl (hw _ (List.mem_of_getElem? (i := 25) rfl))) Via.refl e2 SC (g := (mkF m 19 #[.val (.ref x0), .val (.ref x1), .val (.ref x1)] [])) rfl (hb hby d2_19)
  refine Go.step st3 ?_
  show Go _ _ _ _ (T3.setTop (mkF m 22 #[.val (.ref x0), .val (.ref x1), .val (.ref x1)] [(.int cs)]))
  refine Go.step (fun _ k => XS.ifNo X3.here hx rfl (hb hby d2_22) rfl ((if0 _ _).trans (feq hcs).1) k) ?_
  show Go _ _ _ _ (T3.setTop (mkF m 25 #[.val (.ref x0), .val (.ref x1), .val (.ref x1)] []))
  refine Go.step (fun _ k => XS.aloadN X3.here hx rfl (hb hby d2_25) rfl rfl k) ?_
  show Go _ _ _ _ (T3.setTop (mkF m 26 #[.val (.ref x0), .val (.ref x1), .val (.ref x1)] [(.ref x0)]))
  obtain ⟨T4, X4, e4, st4⟩ := getF X3 hx hZ hown (host := "") (Or.inl (hw _ (List.mem_of_getElem? (i := 26) rfl))) Via.refl e3 FC0 (g := (mkF m 26 #[.val (.ref x0), .val (.ref x1), .val (.ref x1)] [(.ref x0)])) rfl rfl (hb hby d2_26)
  refine Go.step st4 ?_
  show Go _ _ _ _ (T4.setTop (mkF m 29 #[.val (.ref x0), .val (.ref x1), .val (.ref x1)] [(.int (0 : Int32))]))
  refine Go.step (fun _ k => XS.aloadN X4.here hx rfl (hb hby d2_29) rfl rfl k) ?_
  show Go _ _ _ _ (T4.setTop (mkF m 30 #[.val (.ref x0), .val (.ref x1), .val (.ref x1)] [(.ref x1), (.int (0 : Int32))]))
  obtain ⟨T5, X5, e5, st5⟩ := getF X4 hx hZ hown (host := "") (Or.inl (hw _ (List.mem_of_getElem? (i := 26) rfl))) Via.refl e4 FC1 (g := (mkF m 30 #[.val (.ref x0), .val (.ref x1), .val (.ref x1)] [(.ref x1), (.int (0 : Int32))])) rfl rfl (hb hby d2_30)
  refine Go.step st5 ?_
  show Go _ _ _ _ (T5.setTop (mkF m 33 #[.val (.ref x0), .val (.ref x1), .val (.ref x1)] [(.int (0 : Int32)), (.int (0 : Int32))]))
  refine Go.step (fun _ k => XS.icmpNo X5.here hx rfl (hb hby d2_33) rfl (teq (by decide : ((0 : Int32) = (0 : Int32)))).2 k) ?_
  show Go _ _ _ _ (T5.setTop (mkF m 36 #[.val (.ref x0), .val (.ref x1), .val (.ref x1)] []))
  refine Go.step (fun _ k => XS.aloadN X5.here hx rfl (hb hby d2_36) rfl rfl k) ?_
  show Go _ _ _ _ (T5.setTop (mkF m 37 #[.val (.ref x0), .val (.ref x1), .val (.ref x1)] [(.ref x0)]))
  obtain ⟨T6, X6, e6, st6⟩ := getF X5 hx hZ hown (host := "") (Or.inl (hw _ (List.mem_of_getElem? (i := 27) rfl))) Via.refl e5 FV0 (g := (mkF m 37 #[.val (.ref x0), .val (.ref x1), .val (.ref x1)] [(.ref x0)])) rfl rfl (hb hby d2_37)
  refine Go.step st6 ?_
  show Go _ _ _ _ (T6.setTop (mkF m 40 #[.val (.ref x0), .val (.ref x1), .val (.ref x1)] [(.ref b0)]))
  refine Go.step (fun _ k => XS.aloadN X6.here hx rfl (hb hby d2_40) rfl rfl k) ?_
  show Go _ _ _ _ (T6.setTop (mkF m 41 #[.val (.ref x0), .val (.ref x1), .val (.ref x1)] [(.ref x1), (.ref b0)]))
  obtain ⟨T7, X7, e7, st7⟩ := getF X6 hx hZ hown (host := "") (Or.inl (hw _ (List.mem_of_getElem? (i := 27) rfl))) Via.refl e6 FV1 (g := (mkF m 41 #[.val (.ref x0), .val (.ref x1), .val (.ref x1)] [(.ref x1), (.ref b0)])) rfl rfl (hb hby d2_41)
  refine Go.step st7 ?_
  show Go _ _ _ _ (T7.setTop (mkF m 44 #[.val (.ref x0), .val (.ref x1), .val (.ref x1)] [(.ref b1), (.ref b0)]))
  refine goS X7 hx hZ hown (hw _ (List.mem_of_getElem? (i := 28) rfl)) (hw _ (List.mem_of_getElem? (i := 29) rfl)) (hw _ (List.mem_of_getElem? (i := 30) rfl)) (hw _ (List.mem_of_getElem? (i := 31) rfl)) (by decide) (rl_no_yes l Z a0 hw [] b0 b1 h0 k0 k1 A0 A1) e7 (by rw [hml]; rfl) [(.ref b0), (.ref b1)] [] rfl pd4 rfl rfl 0 rfl (hb hby d2_44) (by decide) (by decide) (by decide) (by decide) fun T8 L8 v8 q8 X8 => ?_
  obtain ⟨rfl, e8, rfl⟩ := q8
  rw [List.append_nil] at X8
  show Go _ _ _ _ (T8.setTop (mkF m 47 #[.val (.ref x0), .val (.ref x1), .val (.ref x1)] [(.int (0 : Int32))]))
  refine Go.step (fun _ k => XS.ifYes X8.here hx rfl (pc0 := 47) (pc' := 54) rfl (hb hby d2_47) rfl ((if0 _ _).trans (teq (by decide : ((0 : Int32) = (0 : Int32)))).1) (by decide) (by decide) k) ?_
  show Go _ _ _ _ (T8.setTop (mkF m 54 #[.val (.ref x0), .val (.ref x1), .val (.ref x1)] []))
  refine Go.step (fun _ k => XS.iconst X8.here hx rfl (hb hby d2_54) k) ?_
  show Go _ _ _ _ (T8.setTop (mkF m 55 #[.val (.ref x0), .val (.ref x1), .val (.ref x1)] [(.int (0 : Int32))]))
  exact leafN X8 hx (t := .boolean) hret (by simp) hlk (w := (0 : Int32)) rfl (hb hby d2_55) ⟨rfl, e8, rfl⟩ (by decide) (by decide)
theorem ef1 (m : MethodId) (x0 : Int32) : entryFrame m #[(.int x0)] 1 = mkF m 0 #[.val (.int x0)] [] := by first | (simp [entryFrame, mkF, argsToLocals, Value.category]; done) | rfl
theorem ef3 (m : MethodId) (x0 : Addr) : entryFrame m #[(.ref x0)] 1 = mkF m 0 #[.val (.ref x0)] [] := by first | (simp [entryFrame, mkF, argsToLocals, Value.category]; done) | rfl
set_option maxRecDepth 65536 in
set_option maxHeartbeats 40000000 in
theorem rf_yes (l : Launch) (Z : State) (a0 : Array Value) (hw : ∀ d ∈ tables_1, d.before a0 Z = true) (ws : List Jvm.Cond) (x0 : Int32) (h0 : Heap) (hx0 : ¬ x0 = 0) : ConH l Z consts_1 (⟨"com/example/vestwright/vestwright/PlainFlags", "format", "(Z)Ljava/lang/String;"⟩ : MethodName) prog_34_method_3_code 1 (some (.object "java/lang/String")) ws ({ frames := 0, cells := 2, slots := 16, locals := 0 } : Room) #[(.int x0)] h0 (fun v h L => ∃ a : Addr, v = some (.ref a) ∧ Ext h0 h ∧ Str Z h a (3 : Int32) [(.int (121 : Int32)), (.int (101 : Int32)), (.int (115 : Int32))] ∧ L = []) := by
  refine ConH.of pn1 fun p e s m below meth c s₁ hZ hx hby hml hown hret hlk hnm X0 e0 es hS R0 => ?_
  rw [ef1]
  show Go _ _ _ _ (s₁.setTop (mkF m 0 #[.val (.int x0)] []))
  refine Go.step (fun _ k => XS.iloadN X0.here hx rfl (hb hby d1_0) rfl k) ?_
  show Go _ _ _ _ (s₁.setTop (mkF m 1 #[.val (.int x0)] [(.int x0)]))
  refine Go.step (fun _ k => XS.ifNo X0.here hx rfl (hb hby d1_1) rfl ((if0 _ _).trans (feq hx0).1) k) ?_
  show Go _ _ _ _ (s₁.setTop (mkF m 4 #[.val (.int x0)] []))
  obtain ⟨a1, T1, h1, k1, X1, e1, E1, hS, hk, hZ, hown, F_a1, C1, L1, W1, st1⟩ := ldcK X0 hx hZ hown (hw _ (List.mem_of_getElem? (i := 21) rfl)) (own_wS hw) e0 hS (Nat.le_refl _) (own_EW hw) (List.mem_of_getElem? (i := 0) rfl) R0 [(.int (121 : Int32)), (.int (101 : Int32)), (.int (115 : Int32))] (3 : Int32) ⟨by decide, by decide +kernel⟩ (by decide) (by decide) (g := (mkF m 4 #[.val (.int x0)] [])) rfl (hb hby d1_4) 12 (by decide) (by decide) (by decide) (by decide)
  refine Go.step st1 ?_
  show Go _ _ _ _ (T1.setTop (mkF m 6 #[.val (.int x0)] [(.ref a1)]))
  refine Go.step (fun _ k => XS.goto X1.here hx rfl (pc0 := 6) (pc' := 11) rfl (hb hby d1_6) (by decide) (by decide) k) ?_
  show Go _ _ _ _ (T1.setTop (mkF m 11 #[.val (.int x0)] [(.ref a1)]))
  exact leafAH X1 hS (by rw [e1]; exact hk) hZ (own_EW hw) C1 e1 hx hret rfl hlk rfl rfl (hb hby d1_11) ⟨a1, rfl, by rw [e1]; exact E1, by rw [e1]; exact F_a1, rfl⟩ (by decide) (by decide)
set_option maxRecDepth 65536 in
set_option maxHeartbeats 40000000 in
theorem rp_yes (l : Launch) (Z : State) (a0 : Array Value) (hw : ∀ d ∈ tables_1, d.before a0 Z = true) (ws : List Jvm.Cond) (x0 : Addr) (h0 : Heap) (F0 : Str Z h0 x0 (3 : Int32) [(.int (121 : Int32)), (.int (101 : Int32)), (.int (115 : Int32))]) (cs : Int32) (hcs : ¬ cs = 0) (SC : Sta Z h0 "java/lang/String" "COMPACT_STRINGS" "Z" (.int cs)) : ConH l Z consts_1 (⟨"com/example/vestwright/vestwright/PlainFlags", "parse", "(Ljava/lang/String;)Z"⟩ : MethodName) prog_34_method_2_code 1 (some .boolean) ws ({ frames := 2, cells := 2, slots := 16, locals := 28 } : Room) #[(.ref x0)] h0 (fun v h L => v = some (.int (1 : Int32)) ∧ Ext h0 h ∧ L = []) := by
  refine ConH.of pn3 fun p e s m below meth c s₁ hZ hx hby hml hown hret hlk hnm X0 e0 es hS R0 => ?_
  rw [ef3]
  show Go _ _ _ _ (s₁.setTop (mkF m 0 #[.val (.ref x0)] []))
  refine Go.step (fun _ k => XS.aloadN X0.here hx rfl (hb hby d3_0) rfl rfl k) ?_
  show Go _ _ _ _ (s₁.setTop (mkF m 1 #[.val (.ref x0)] [(.ref x0)]))
  obtain ⟨a1, T1, h1, k1, X1, e1, E1, hS, hk, hZ, hown, F_a1, C1, L1, W1, st1⟩ := ldcK X0 hx hZ hown (hw _ (List.mem_of_getElem? (i := 21) rfl)) (own_wS hw) e0 hS (Nat.le_refl _) (own_EW hw) (List.mem_of_getElem? (i := 0) rfl) R0 [(.int (121 : Int32)), (.int (101 : Int32)), (.int (115 : Int32))] (3 : Int32) ⟨by decide, by decide +kernel⟩ (by decide) (by decide) (g := (mkF m 1 #[.val (.ref x0)] [(.ref x0)])) rfl (hb hby d3_1) 12 (by decide) (by decide) (by decide) (by decide)
  refine Go.step st1 ?_
  show Go _ _ _ _ (T1.setTop (mkF m 3 #[.val (.ref x0)] [(.ref a1), (.ref x0)]))
  have Fs2 : Str Z h1 x0 (3 : Int32) [(.int (121 : Int32)), (.int (101 : Int32)), (.int (115 : Int32))] := (F0.ext E1)
  refine goV X1 hx hZ hown (hw _ (List.mem_of_getElem? (i := 22) rfl)) (hw _ (List.mem_of_getElem? (i := 14) rfl)) (notFace_of_selects (args := #[]) (mvT hZ (hw _ (List.mem_of_getElem? (i := 16) rfl)))) (hw _ (List.mem_of_getElem? (i := 16) rfl)) (hw _ (List.mem_of_getElem? (i := 15) rfl)) (hw _ (List.mem_of_getElem? (i := 5) rfl)) (hw _ (List.mem_of_getElem? (i := 17) rfl)) (by decide) (rs_yes_yes l Z a0 hw [] x0 a1 h1 Fs2 F_a1 cs hcs (SC.ext E1)) e1 (show Exa Z h1 x0 "java/lang/String" from by obtain ⟨_, _, q, _⟩ := Fs2; exact q) (by rw [hml]; rfl) [(.ref a1)] [] rfl pd2 rfl rfl 0 rfl (hb hby d3_3) (by decide) (by decide) (by decide) (by decide) fun T3 L3 v3 q3 X3 => ?_
  obtain ⟨rfl, e3, rfl⟩ := q3
  rw [List.append_nil] at X3
  show Go _ _ _ _ (T3.setTop (mkF m 6 #[.val (.ref x0)] [(.int (1 : Int32))]))
  refine Go.step (fun _ k => XS.ifYes X3.here hx rfl (pc0 := 6) (pc' := 32) rfl (hb hby d3_6) rfl ((if0 _ _).trans (feq (by decide : ¬ ((1 : Int32) = (0 : Int32)))).2) (by decide) (by decide) k) ?_
  show Go _ _ _ _ (T3.setTop (mkF m 32 #[.val (.ref x0)] []))
  refine Go.step (fun _ k => XS.aloadN X3.here hx rfl (hb hby d3_32) rfl rfl k) ?_
  show Go _ _ _ _ (T3.setTop (mkF m 33 #[.val (.ref x0)] [(.ref x0)]))
  refine Go.step (ldcAgain X3 hx hZ hown (hw _ (List.mem_of_getElem? (i := 21) rfl)) L1 (g := (mkF m 33 #[.val (.ref x0)] [(.ref x0)])) rfl (hb hby d3_33)) ?_
  show Go _ _ _ _ (T3.setTop (mkF m 35 #[.val (.ref x0)] [(.ref a1), (.ref x0)]))
  have Fs5 : Str Z h1 x0 (3 : Int32) [(.int (121 : Int32)), (.int (101 : Int32)), (.int (115 : Int32))] := (F0.ext E1)
  refine goV X3 hx hZ hown (hw _ (List.mem_of_getElem? (i := 22) rfl)) (hw _ (List.mem_of_getElem? (i := 14) rfl)) (notFace_of_selects (args := #[]) (mvT hZ (hw _ (List.mem_of_getElem? (i := 16) rfl)))) (hw _ (List.mem_of_getElem? (i := 16) rfl)) (hw _ (List.mem_of_getElem? (i := 15) rfl)) (hw _ (List.mem_of_getElem? (i := 5) rfl)) (hw _ (List.mem_of_getElem? (i := 17) rfl)) (by decide) (rs_yes_yes l Z a0 hw [] x0 a1 h1 Fs5 F_a1 cs hcs (SC.ext E1)) e3 (show Exa Z h1 x0 "java/lang/String" from by obtain ⟨_, _, q, _⟩ := Fs5; exact q) (by rw [hml]; rfl) [(.ref a1)] [] rfl pd2 rfl rfl 0 rfl (hb hby d3_35) (by decide) (by decide) (by decide) (by decide) fun T6 L6 v6 q6 X6 => ?_
  obtain ⟨rfl, e6, rfl⟩ := q6
  rw [List.append_nil] at X6
  show Go _ _ _ _ (T6.setTop (mkF m 38 #[.val (.ref x0)] [(.int (1 : Int32))]))
  exact leafNH X6 hS (by rw [e6]; exact hk) hZ (own_EW hw) C1 e6 hx (t := .boolean) hret (by simp) hlk (w := (1 : Int32)) rfl (hb hby d3_38) ⟨rfl, by rw [e6]; exact E1, rfl⟩ (by decide) (by decide)
set_option maxRecDepth 65536 in
set_option maxHeartbeats 40000000 in
theorem rf_no (l : Launch) (Z : State) (a0 : Array Value) (hw : ∀ d ∈ tables_1, d.before a0 Z = true) (ws : List Jvm.Cond) (x0 : Int32) (h0 : Heap) (hx0 : x0 = 0) : ConH l Z consts_1 (⟨"com/example/vestwright/vestwright/PlainFlags", "format", "(Z)Ljava/lang/String;"⟩ : MethodName) prog_34_method_3_code 1 (some (.object "java/lang/String")) ws ({ frames := 0, cells := 2, slots := 12, locals := 0 } : Room) #[(.int x0)] h0 (fun v h L => ∃ a : Addr, v = some (.ref a) ∧ Ext h0 h ∧ Str Z h a (2 : Int32) [(.int (110 : Int32)), (.int (111 : Int32))] ∧ L = []) := by
  refine ConH.of pn1 fun p e s m below meth c s₁ hZ hx hby hml hown hret hlk hnm X0 e0 es hS R0 => ?_
  rw [ef1]
  show Go _ _ _ _ (s₁.setTop (mkF m 0 #[.val (.int x0)] []))
  refine Go.step (fun _ k => XS.iloadN X0.here hx rfl (hb hby d1_0) rfl k) ?_
  show Go _ _ _ _ (s₁.setTop (mkF m 1 #[.val (.int x0)] [(.int x0)]))
  refine Go.step (fun _ k => XS.ifYes X0.here hx rfl (pc0 := 1) (pc' := 9) rfl (hb hby d1_1) rfl ((if0 _ _).trans (teq hx0).1) (by decide) (by decide) k) ?_
  show Go _ _ _ _ (s₁.setTop (mkF m 9 #[.val (.int x0)] []))
  obtain ⟨a1, T1, h1, k1, X1, e1, E1, hS, hk, hZ, hown, F_a1, C1, L1, W1, st1⟩ := ldcK X0 hx hZ hown (hw _ (List.mem_of_getElem? (i := 4) rfl)) (own_wS hw) e0 hS (Nat.le_refl _) (own_EW hw) (List.mem_of_getElem? (i := 1) rfl) R0 [(.int (110 : Int32)), (.int (111 : Int32))] (2 : Int32) ⟨by decide, by decide +kernel⟩ (by decide) (by decide) (g := (mkF m 9 #[.val (.int x0)] [])) rfl (hb hby d1_9) 8 (by decide) (by decide) (by decide) (by decide)
  refine Go.step st1 ?_
  show Go _ _ _ _ (T1.setTop (mkF m 11 #[.val (.int x0)] [(.ref a1)]))
  exact leafAH X1 hS (by rw [e1]; exact hk) hZ (own_EW hw) C1 e1 hx hret rfl hlk rfl rfl (hb hby d1_11) ⟨a1, rfl, by rw [e1]; exact E1, by rw [e1]; exact F_a1, rfl⟩ (by decide) (by decide)
set_option maxRecDepth 65536 in
set_option maxHeartbeats 40000000 in
theorem rp_no (l : Launch) (Z : State) (a0 : Array Value) (hw : ∀ d ∈ tables_1, d.before a0 Z = true) (ws : List Jvm.Cond) (x0 : Addr) (h0 : Heap) (F0 : Str Z h0 x0 (2 : Int32) [(.int (110 : Int32)), (.int (111 : Int32))]) (cs : Int32) (hcs : ¬ cs = 0) (SC : Sta Z h0 "java/lang/String" "COMPACT_STRINGS" "Z" (.int cs)) : ConH l Z consts_1 (⟨"com/example/vestwright/vestwright/PlainFlags", "parse", "(Ljava/lang/String;)Z"⟩ : MethodName) prog_34_method_2_code 1 (some .boolean) ws ({ frames := 2, cells := 4, slots := 28, locals := 28 } : Room) #[(.ref x0)] h0 (fun v h L => v = some (.int (0 : Int32)) ∧ Ext h0 h ∧ L = []) := by
  refine ConH.of pn3 fun p e s m below meth c s₁ hZ hx hby hml hown hret hlk hnm X0 e0 es hS R0 => ?_
  rw [ef3]
  show Go _ _ _ _ (s₁.setTop (mkF m 0 #[.val (.ref x0)] []))
  refine Go.step (fun _ k => XS.aloadN X0.here hx rfl (hb hby d3_0) rfl rfl k) ?_
  show Go _ _ _ _ (s₁.setTop (mkF m 1 #[.val (.ref x0)] [(.ref x0)]))
  obtain ⟨a1, T1, h1, k1, X1, e1, E1, hS, hk, hZ, hown, F_a1, C1, L1, W1, st1⟩ := ldcK X0 hx hZ hown (hw _ (List.mem_of_getElem? (i := 21) rfl)) (own_wS hw) e0 hS (Nat.le_refl _) (own_EW hw) (List.mem_of_getElem? (i := 0) rfl) R0 [(.int (121 : Int32)), (.int (101 : Int32)), (.int (115 : Int32))] (3 : Int32) ⟨by decide, by decide +kernel⟩ (by decide) (by decide) (g := (mkF m 1 #[.val (.ref x0)] [(.ref x0)])) rfl (hb hby d3_1) 12 (by decide) (by decide) (by decide) (by decide)
  refine Go.step st1 ?_
  show Go _ _ _ _ (T1.setTop (mkF m 3 #[.val (.ref x0)] [(.ref a1), (.ref x0)]))
  have Fs2 : Str Z h1 x0 (2 : Int32) [(.int (110 : Int32)), (.int (111 : Int32))] := (F0.ext E1)
  refine goV X1 hx hZ hown (hw _ (List.mem_of_getElem? (i := 22) rfl)) (hw _ (List.mem_of_getElem? (i := 14) rfl)) (notFace_of_selects (args := #[]) (mvT hZ (hw _ (List.mem_of_getElem? (i := 16) rfl)))) (hw _ (List.mem_of_getElem? (i := 16) rfl)) (hw _ (List.mem_of_getElem? (i := 15) rfl)) (hw _ (List.mem_of_getElem? (i := 5) rfl)) (hw _ (List.mem_of_getElem? (i := 17) rfl)) (by decide) (rs_no_yes l Z a0 hw [] x0 a1 h1 Fs2 F_a1 cs hcs (SC.ext E1)) e1 (show Exa Z h1 x0 "java/lang/String" from by obtain ⟨_, _, q, _⟩ := Fs2; exact q) (by rw [hml]; rfl) [(.ref a1)] [] rfl pd2 rfl rfl 0 rfl (hb hby d3_3) (by decide) (by decide) (by decide) (by decide) fun T3 L3 v3 q3 X3 => ?_
  obtain ⟨rfl, e3, rfl⟩ := q3
  rw [List.append_nil] at X3
  show Go _ _ _ _ (T3.setTop (mkF m 6 #[.val (.ref x0)] [(.int (0 : Int32))]))
  refine Go.step (fun _ k => XS.ifNo X3.here hx rfl (hb hby d3_6) rfl ((if0 _ _).trans (teq (by decide : ((0 : Int32) = (0 : Int32)))).2) k) ?_
  show Go _ _ _ _ (T3.setTop (mkF m 9 #[.val (.ref x0)] []))
  refine Go.step (fun _ k => XS.aloadN X3.here hx rfl (hb hby d3_9) rfl rfl k) ?_
  show Go _ _ _ _ (T3.setTop (mkF m 10 #[.val (.ref x0)] [(.ref x0)]))
  obtain ⟨a4, T4, h4, k4, X4, e4, E4, hS, hk, hZ, hown, F_a4, C4, L4, W4, st4⟩ := ldcK X3 hx hZ hown (hw _ (List.mem_of_getElem? (i := 4) rfl)) (own_wS hw) e3 hS hk (own_EW hw) (List.mem_of_getElem? (i := 1) rfl) C1 [(.int (110 : Int32)), (.int (111 : Int32))] (2 : Int32) ⟨by decide, by decide +kernel⟩ (by decide) (by decide) (g := (mkF m 10 #[.val (.ref x0)] [(.ref x0)])) rfl (hb hby d3_10) 8 (by decide) (by decide) (by decide) (by decide)
  refine Go.step st4 ?_
  have L1_4 := Lit.stays L1 W4
  show Go _ _ _ _ (T4.setTop (mkF m 12 #[.val (.ref x0)] [(.ref a4), (.ref x0)]))
  have Fs5 : Str Z h4 x0 (2 : Int32) [(.int (110 : Int32)), (.int (111 : Int32))] := ((F0.ext E1).ext E4)
  refine goV X4 hx hZ hown (hw _ (List.mem_of_getElem? (i := 22) rfl)) (hw _ (List.mem_of_getElem? (i := 14) rfl)) (notFace_of_selects (args := #[]) (mvT hZ (hw _ (List.mem_of_getElem? (i := 16) rfl)))) (hw _ (List.mem_of_getElem? (i := 16) rfl)) (hw _ (List.mem_of_getElem? (i := 15) rfl)) (hw _ (List.mem_of_getElem? (i := 5) rfl)) (hw _ (List.mem_of_getElem? (i := 17) rfl)) (by decide) (rs_no_no l Z a0 hw [] x0 a4 h4 Fs5 F_a4 cs hcs ((SC.ext E1).ext E4)) e4 (show Exa Z h4 x0 "java/lang/String" from by obtain ⟨_, _, q, _⟩ := Fs5; exact q) (by rw [hml]; rfl) [(.ref a4)] [] rfl pd2 rfl rfl 0 rfl (hb hby d3_12) (by decide) (by decide) (by decide) (by decide) fun T6 L6 v6 q6 X6 => ?_
  obtain ⟨rfl, e6, rfl⟩ := q6
  rw [List.append_nil] at X6
  show Go _ _ _ _ (T6.setTop (mkF m 15 #[.val (.ref x0)] [(.int (1 : Int32))]))
  refine Go.step (fun _ k => XS.ifYes X6.here hx rfl (pc0 := 15) (pc' := 32) rfl (hb hby d3_15) rfl ((if0 _ _).trans (feq (by decide : ¬ ((1 : Int32) = (0 : Int32)))).2) (by decide) (by decide) k) ?_
  show Go _ _ _ _ (T6.setTop (mkF m 32 #[.val (.ref x0)] []))
  refine Go.step (fun _ k => XS.aloadN X6.here hx rfl (hb hby d3_32) rfl rfl k) ?_
  show Go _ _ _ _ (T6.setTop (mkF m 33 #[.val (.ref x0)] [(.ref x0)]))
  refine Go.step (ldcAgain X6 hx hZ hown (hw _ (List.mem_of_getElem? (i := 21) rfl)) L1_4 (g := (mkF m 33 #[.val (.ref x0)] [(.ref x0)])) rfl (hb hby d3_33)) ?_
  show Go _ _ _ _ (T6.setTop (mkF m 35 #[.val (.ref x0)] [(.ref a1), (.ref x0)]))
  have Fs8 : Str Z h4 x0 (2 : Int32) [(.int (110 : Int32)), (.int (111 : Int32))] := ((F0.ext E1).ext E4)
  refine goV X6 hx hZ hown (hw _ (List.mem_of_getElem? (i := 22) rfl)) (hw _ (List.mem_of_getElem? (i := 14) rfl)) (notFace_of_selects (args := #[]) (mvT hZ (hw _ (List.mem_of_getElem? (i := 16) rfl)))) (hw _ (List.mem_of_getElem? (i := 16) rfl)) (hw _ (List.mem_of_getElem? (i := 15) rfl)) (hw _ (List.mem_of_getElem? (i := 5) rfl)) (hw _ (List.mem_of_getElem? (i := 17) rfl)) (by decide) (rs_no_yes l Z a0 hw [] x0 a1 h4 Fs8 (F_a1.ext E4) cs hcs ((SC.ext E1).ext E4)) e6 (show Exa Z h4 x0 "java/lang/String" from by obtain ⟨_, _, q, _⟩ := Fs8; exact q) (by rw [hml]; rfl) [(.ref a1)] [] rfl pd2 rfl rfl 0 rfl (hb hby d3_35) (by decide) (by decide) (by decide) (by decide) fun T9 L9 v9 q9 X9 => ?_
  obtain ⟨rfl, e9, rfl⟩ := q9
  rw [List.append_nil] at X9
  show Go _ _ _ _ (T9.setTop (mkF m 38 #[.val (.ref x0)] [(.int (0 : Int32))]))
  exact leafNH X9 hS (by rw [e9]; exact hk) hZ (own_EW hw) C4 e9 hx (t := .boolean) hret (by simp) hlk (w := (0 : Int32)) rfl (hb hby d3_38) ⟨rfl, by rw [e9]; exact (Ext.on E1 E4), rfl⟩ (by decide) (by decide)
theorem pn0 : plainFor x = true := plainFor_of_name (by first | (simp [plainName, overriddenIn, x]; done) | decide +kernel)
theorem ef0 (m : MethodId) (x0 : Int32) : entryFrame m #[(.int x0)] maxLocals = mkF m 0 #[.val (.int x0), .unset, .unset, .unset] [] := by first | (simp [entryFrame, mkF, argsToLocals, Value.category, maxLocals]; done) | rfl
set_option maxRecDepth 65536 in
set_option maxHeartbeats 40000000 in
theorem rm0 (l : Launch) (Z : State) (a0 : Array Value) (hw : ∀ d ∈ tables_1, d.before a0 Z = true) (ws : List Jvm.Cond) (x0 : Int32) (h0 : Heap) (cs : Int32) (hcs : ¬ cs = 0) (SC : Sta Z h0 "java/lang/String" "COMPACT_STRINGS" "Z" (.int cs)) : ConH l Z consts_1 x code maxLocals ret ws room_1 #[(.int x0)] h0 (fun v h L => v = some (.int 1) ∧ Fr h0.size L) := by
  refine ConH.of pn0 fun p e s m below meth c s₁ hZ hx hby hml hown hret hlk hnm X0 e0 es hS R0 => ?_
  rw [ef0]
  show Go _ _ _ _ (s₁.setTop (mkF m 0 #[.val (.int x0), .unset, .unset, .unset] []))
  refine Go.step (fun _ k => XS.iloadN X0.here hx rfl (hb hby at_0) rfl k) ?_
  show Go _ _ _ _ (s₁.setTop (mkF m 1 #[.val (.int x0), .unset, .unset, .unset] [(.int x0)]))
  refine Go.step (fun _ k => XS.iconst X0.here hx rfl (hb hby at_1) k) ?_
  show Go _ _ _ _ (s₁.setTop (mkF m 2 #[.val (.int x0), .unset, .unset, .unset] [(.int (1 : Int32)), (.int x0)]))
  refine Go.step (fun _ k => XS.iand X0.here hx rfl (hb hby at_2) rfl k) ?_
  show Go _ _ _ _ (s₁.setTop (mkF m 3 #[.val (.int x0), .unset, .unset, .unset] [(.int (x0 &&& (1 : Int32)))]))
  by_cases hc1 : (x0 &&& (1 : Int32)) = (0 : Int32)
  · refine Go.step (fun _ k => XS.ifYes X0.here hx rfl (pc0 := 3) (pc' := 10) rfl (hb hby at_3) rfl ((if0 _ _).trans (teq hc1).1) (by decide) (by decide) k) ?_
    show Go _ _ _ _ (s₁.setTop (mkF m 10 #[.val (.int x0), .unset, .unset, .unset] []))
    refine Go.step (fun _ k => XS.iconst X0.here hx rfl (hb hby at_10) k) ?_
    show Go _ _ _ _ (s₁.setTop (mkF m 11 #[.val (.int x0), .unset, .unset, .unset] [(.int (0 : Int32))]))
    refine Go.step (fun _ k => XS.istoreN X0.here hx rfl (hb hby at_11) rfl (l' := #[.val (.int x0), .val (.int (0 : Int32)), .unset, .unset]) rfl k) ?_
    show Go _ _ _ _ (s₁.setTop (mkF m 12 #[.val (.int x0), .val (.int (0 : Int32)), .unset, .unset] []))
    refine Go.step (fun _ k => XS.iloadN X0.here hx rfl (hb hby at_12) rfl k) ?_
    show Go _ _ _ _ (s₁.setTop (mkF m 13 #[.val (.int x0), .val (.int (0 : Int32)), .unset, .unset] [(.int (0 : Int32))]))
    refine goSH X0 hS (by rw [e0]; exact (Nat.le_refl _)) hx hZ (own_EW hw) R0 hown (hw _ (List.mem_of_getElem? (i := 0) rfl)) (hw _ (List.mem_of_getElem? (i := 1) rfl)) (hw _ (List.mem_of_getElem? (i := 2) rfl)) (hw _ (List.mem_of_getElem? (i := 3) rfl)) (by decide) (rf_no l Z a0 hw [] (0 : Int32) h0 (by decide)) e0 (by rw [hml]; rfl) [(.int (0 : Int32))] [] rfl pd1 rfl rfl 0 rfl (hb hby at_13) (by decide) (by decide) (by decide) (by decide) fun T2 L2 v2 q2 X2 hS C2 hZ hown => ?_
    obtain ⟨o2, rfl, E2, F_o2, rfl⟩ := q2
    rw [List.append_nil] at X2
    have e2 : T2.heap = T2.heap := rfl
    have hk : T2.heap.size ≤ T2.heap.size := Nat.le_refl _
    show Go _ _ _ _ (T2.setTop (mkF m 16 #[.val (.int x0), .val (.int (0 : Int32)), .unset, .unset] [(.ref o2)]))
    refine Go.step (fun _ k => XS.astoreN X2.here hx rfl (hb hby at_16) rfl rfl (l' := #[.val (.int x0), .val (.int (0 : Int32)), .val (.ref o2), .unset]) rfl k) ?_
    show Go _ _ _ _ (T2.setTop (mkF m 17 #[.val (.int x0), .val (.int (0 : Int32)), .val (.ref o2), .unset] []))
    refine Go.step (fun _ k => XS.aloadN X2.here hx rfl (hb hby at_17) rfl rfl k) ?_
    show Go _ _ _ _ (T2.setTop (mkF m 18 #[.val (.int x0), .val (.int (0 : Int32)), .val (.ref o2), .unset] [(.ref o2)]))
    refine Go.step (fun _ k => XS.ifnonnullYes X2.here hx rfl (pc0 := 18) (pc' := 23) rfl (hb hby at_18) rfl (by decide) (by decide) k) ?_
    show Go _ _ _ _ (T2.setTop (mkF m 23 #[.val (.int x0), .val (.int (0 : Int32)), .val (.ref o2), .unset] []))
    refine Go.step (fun _ k => XS.iloadN X2.here hx rfl (hb hby at_23) rfl k) ?_
    show Go _ _ _ _ (T2.setTop (mkF m 24 #[.val (.int x0), .val (.int (0 : Int32)), .val (.ref o2), .unset] [(.int (0 : Int32))]))
    refine Go.step (fun _ k => XS.ifYes X2.here hx rfl (pc0 := 24) (pc' := 36) rfl (hb hby at_24) rfl ((if0 _ _).trans (teq (by decide : ((0 : Int32) = (0 : Int32)))).1) (by decide) (by decide) k) ?_
    show Go _ _ _ _ (T2.setTop (mkF m 36 #[.val (.int x0), .val (.int (0 : Int32)), .val (.ref o2), .unset] []))
    refine Go.step (fun _ k => XS.aloadN X2.here hx rfl (hb hby at_36) rfl rfl k) ?_
    show Go _ _ _ _ (T2.setTop (mkF m 37 #[.val (.int x0), .val (.int (0 : Int32)), .val (.ref o2), .unset] [(.ref o2)]))
    obtain ⟨a3, T3, h3, k3, X3, e3, E3, hS, hk, hZ, hown, F_a3, C3, L3, W3, st3⟩ := ldcK X2 hx hZ hown (hw _ (List.mem_of_getElem? (i := 12) rfl)) (own_wS hw) e2 hS hk (own_EW hw) (List.mem_of_getElem? (i := 3) rfl) C2 [(.int (110 : Int32)), (.int (111 : Int32))] (2 : Int32) ⟨by decide, by decide +kernel⟩ (by decide) (by decide) (g := (mkF m 37 #[.val (.int x0), .val (.int (0 : Int32)), .val (.ref o2), .unset] [(.ref o2)])) rfl (hb hby at_37) 8 (by decide) (by decide) (by decide) (by decide)
    refine Go.step st3 ?_
    show Go _ _ _ _ (T3.setTop (mkF m 39 #[.val (.int x0), .val (.int (0 : Int32)), .val (.ref o2), .unset] [(.ref a3), (.ref o2)]))
    have Fs4 : Str Z h3 o2 (2 : Int32) [(.int (110 : Int32)), (.int (111 : Int32))] := (F_o2.ext E3)
    refine goV X3 hx hZ hown (hw _ (List.mem_of_getElem? (i := 13) rfl)) (hw _ (List.mem_of_getElem? (i := 14) rfl)) (notFace_of_selects (args := #[]) (mvT hZ (hw _ (List.mem_of_getElem? (i := 16) rfl)))) (hw _ (List.mem_of_getElem? (i := 16) rfl)) (hw _ (List.mem_of_getElem? (i := 15) rfl)) (hw _ (List.mem_of_getElem? (i := 5) rfl)) (hw _ (List.mem_of_getElem? (i := 17) rfl)) (by decide) (rs_no_no l Z a0 hw [] o2 a3 h3 Fs4 F_a3 cs hcs ((SC.ext E2).ext E3)) e3 (show Exa Z h3 o2 "java/lang/String" from by obtain ⟨_, _, q, _⟩ := Fs4; exact q) (by rw [hml]; rfl) [(.ref a3)] [] rfl pd2 rfl rfl 0 rfl (hb hby at_39) (by decide) (by decide) (by decide) (by decide) fun T5 L5 v5 q5 X5 => ?_
    obtain ⟨rfl, e5, rfl⟩ := q5
    rw [List.append_nil] at X5
    show Go _ _ _ _ (T5.setTop (mkF m 42 #[.val (.int x0), .val (.int (0 : Int32)), .val (.ref o2), .unset] [(.int (1 : Int32))]))
    refine Go.step (fun _ k => XS.istoreN X5.here hx rfl (hb hby at_42) rfl (l' := #[.val (.int x0), .val (.int (0 : Int32)), .val (.ref o2), .val (.int (1 : Int32))]) rfl k) ?_
    show Go _ _ _ _ (T5.setTop (mkF m 43 #[.val (.int x0), .val (.int (0 : Int32)), .val (.ref o2), .val (.int (1 : Int32))] []))
    refine Go.step (fun _ k => XS.iloadN X5.here hx rfl (hb hby at_43) rfl k) ?_
    show Go _ _ _ _ (T5.setTop (mkF m 44 #[.val (.int x0), .val (.int (0 : Int32)), .val (.ref o2), .val (.int (1 : Int32))] [(.int (1 : Int32))]))
    refine Go.step (fun _ k => XS.ifYes X5.here hx rfl (pc0 := 44) (pc' := 49) rfl (hb hby at_44) rfl ((if0 _ _).trans (feq (by decide : ¬ ((1 : Int32) = (0 : Int32)))).2) (by decide) (by decide) k) ?_
    show Go _ _ _ _ (T5.setTop (mkF m 49 #[.val (.int x0), .val (.int (0 : Int32)), .val (.ref o2), .val (.int (1 : Int32))] []))
    refine Go.step (fun _ k => XS.aloadN X5.here hx rfl (hb hby at_49) rfl rfl k) ?_
    show Go _ _ _ _ (T5.setTop (mkF m 50 #[.val (.int x0), .val (.int (0 : Int32)), .val (.ref o2), .val (.int (1 : Int32))] [(.ref o2)]))
    refine goSH X5 hS (by rw [e5]; exact hk) hx hZ (own_EW hw) C3 hown (hw _ (List.mem_of_getElem? (i := 18) rfl)) (hw _ (List.mem_of_getElem? (i := 19) rfl)) (hw _ (List.mem_of_getElem? (i := 2) rfl)) (hw _ (List.mem_of_getElem? (i := 20) rfl)) (by decide) (rp_no l Z a0 hw [] o2 h3 (F_o2.ext E3) cs hcs ((SC.ext E2).ext E3)) e5 (by rw [hml]; rfl) [(.ref o2)] [] rfl pd3 rfl rfl 0 rfl (hb hby at_50) (by decide) (by decide) (by decide) (by decide) fun T6 L6 v6 q6 X6 hS C6 hZ hown => ?_
    obtain ⟨rfl, E6, rfl⟩ := q6
    rw [List.append_nil] at X6
    have e6 : T6.heap = T6.heap := rfl
    have hk : T6.heap.size ≤ T6.heap.size := Nat.le_refl _
    show Go _ _ _ _ (T6.setTop (mkF m 53 #[.val (.int x0), .val (.int (0 : Int32)), .val (.ref o2), .val (.int (1 : Int32))] [(.int (0 : Int32))]))
    refine Go.step (fun _ k => XS.iloadN X6.here hx rfl (hb hby at_53) rfl k) ?_
    show Go _ _ _ _ (T6.setTop (mkF m 54 #[.val (.int x0), .val (.int (0 : Int32)), .val (.ref o2), .val (.int (1 : Int32))] [(.int (0 : Int32)), (.int (0 : Int32))]))
    refine Go.step (fun _ k => XS.icmpNo X6.here hx rfl (hb hby at_54) rfl (teq (by decide : ((0 : Int32) = (0 : Int32)))).2 k) ?_
    show Go _ _ _ _ (T6.setTop (mkF m 57 #[.val (.int x0), .val (.int (0 : Int32)), .val (.ref o2), .val (.int (1 : Int32))] []))
    refine Go.step (fun _ k => XS.iconst X6.here hx rfl (hb hby at_57) k) ?_
    show Go _ _ _ _ (T6.setTop (mkF m 58 #[.val (.int x0), .val (.int (0 : Int32)), .val (.ref o2), .val (.int (1 : Int32))] [(.int (1 : Int32))]))
    refine Go.step (fun _ k => XS.goto X6.here hx rfl (pc0 := 58) (pc' := 62) rfl (hb hby at_58) (by decide) (by decide) k) ?_
    show Go _ _ _ _ (T6.setTop (mkF m 62 #[.val (.int x0), .val (.int (0 : Int32)), .val (.ref o2), .val (.int (1 : Int32))] [(.int (1 : Int32))]))
    exact leafNH X6 hS (by rw [e6]; exact hk) hZ (own_EW hw) C6 e6 hx (t := .boolean) hret (by simp) hlk (w := (1 : Int32)) rfl (hb hby at_62) ⟨rfl, Fr.nil _⟩ (by decide) (by decide)
  · refine Go.step (fun _ k => XS.ifNo X0.here hx rfl (hb hby at_3) rfl ((if0 _ _).trans (feq hc1).1) k) ?_
    show Go _ _ _ _ (s₁.setTop (mkF m 6 #[.val (.int x0), .unset, .unset, .unset] []))
    refine Go.step (fun _ k => XS.iconst X0.here hx rfl (hb hby at_6) k) ?_
    show Go _ _ _ _ (s₁.setTop (mkF m 7 #[.val (.int x0), .unset, .unset, .unset] [(.int (1 : Int32))]))
    refine Go.step (fun _ k => XS.goto X0.here hx rfl (pc0 := 7) (pc' := 11) rfl (hb hby at_7) (by decide) (by decide) k) ?_
    show Go _ _ _ _ (s₁.setTop (mkF m 11 #[.val (.int x0), .unset, .unset, .unset] [(.int (1 : Int32))]))
    refine Go.step (fun _ k => XS.istoreN X0.here hx rfl (hb hby at_11) rfl (l' := #[.val (.int x0), .val (.int (1 : Int32)), .unset, .unset]) rfl k) ?_
    show Go _ _ _ _ (s₁.setTop (mkF m 12 #[.val (.int x0), .val (.int (1 : Int32)), .unset, .unset] []))
    refine Go.step (fun _ k => XS.iloadN X0.here hx rfl (hb hby at_12) rfl k) ?_
    show Go _ _ _ _ (s₁.setTop (mkF m 13 #[.val (.int x0), .val (.int (1 : Int32)), .unset, .unset] [(.int (1 : Int32))]))
    refine goSH X0 hS (by rw [e0]; exact (Nat.le_refl _)) hx hZ (own_EW hw) R0 hown (hw _ (List.mem_of_getElem? (i := 0) rfl)) (hw _ (List.mem_of_getElem? (i := 1) rfl)) (hw _ (List.mem_of_getElem? (i := 2) rfl)) (hw _ (List.mem_of_getElem? (i := 3) rfl)) (by decide) (rf_yes l Z a0 hw [] (1 : Int32) h0 (by decide)) e0 (by rw [hml]; rfl) [(.int (1 : Int32))] [] rfl pd1 rfl rfl 0 rfl (hb hby at_13) (by decide) (by decide) (by decide) (by decide) fun T7 L7 v7 q7 X7 hS C7 hZ hown => ?_
    obtain ⟨o7, rfl, E7, F_o7, rfl⟩ := q7
    rw [List.append_nil] at X7
    have e7 : T7.heap = T7.heap := rfl
    have hk : T7.heap.size ≤ T7.heap.size := Nat.le_refl _
    show Go _ _ _ _ (T7.setTop (mkF m 16 #[.val (.int x0), .val (.int (1 : Int32)), .unset, .unset] [(.ref o7)]))
    refine Go.step (fun _ k => XS.astoreN X7.here hx rfl (hb hby at_16) rfl rfl (l' := #[.val (.int x0), .val (.int (1 : Int32)), .val (.ref o7), .unset]) rfl k) ?_
    show Go _ _ _ _ (T7.setTop (mkF m 17 #[.val (.int x0), .val (.int (1 : Int32)), .val (.ref o7), .unset] []))
    refine Go.step (fun _ k => XS.aloadN X7.here hx rfl (hb hby at_17) rfl rfl k) ?_
    show Go _ _ _ _ (T7.setTop (mkF m 18 #[.val (.int x0), .val (.int (1 : Int32)), .val (.ref o7), .unset] [(.ref o7)]))
    refine Go.step (fun _ k => XS.ifnonnullYes X7.here hx rfl (pc0 := 18) (pc' := 23) rfl (hb hby at_18) rfl (by decide) (by decide) k) ?_
    show Go _ _ _ _ (T7.setTop (mkF m 23 #[.val (.int x0), .val (.int (1 : Int32)), .val (.ref o7), .unset] []))
    refine Go.step (fun _ k => XS.iloadN X7.here hx rfl (hb hby at_23) rfl k) ?_
    show Go _ _ _ _ (T7.setTop (mkF m 24 #[.val (.int x0), .val (.int (1 : Int32)), .val (.ref o7), .unset] [(.int (1 : Int32))]))
    refine Go.step (fun _ k => XS.ifNo X7.here hx rfl (hb hby at_24) rfl ((if0 _ _).trans (feq (by decide : ¬ ((1 : Int32) = (0 : Int32)))).1) k) ?_
    show Go _ _ _ _ (T7.setTop (mkF m 27 #[.val (.int x0), .val (.int (1 : Int32)), .val (.ref o7), .unset] []))
    refine Go.step (fun _ k => XS.aloadN X7.here hx rfl (hb hby at_27) rfl rfl k) ?_
    show Go _ _ _ _ (T7.setTop (mkF m 28 #[.val (.int x0), .val (.int (1 : Int32)), .val (.ref o7), .unset] [(.ref o7)]))
    obtain ⟨a8, T8, h8, k8, X8, e8, E8, hS, hk, hZ, hown, F_a8, C8, L8, W8, st8⟩ := ldcK X7 hx hZ hown (hw _ (List.mem_of_getElem? (i := 32) rfl)) (own_wS hw) e7 hS hk (own_EW hw) (List.mem_of_getElem? (i := 2) rfl) C7 [(.int (121 : Int32)), (.int (101 : Int32)), (.int (115 : Int32))] (3 : Int32) ⟨by decide, by decide +kernel⟩ (by decide) (by decide) (g := (mkF m 28 #[.val (.int x0), .val (.int (1 : Int32)), .val (.ref o7), .unset] [(.ref o7)])) rfl (hb hby at_28) 12 (by decide) (by decide) (by decide) (by decide)
    refine Go.step st8 ?_
    show Go _ _ _ _ (T8.setTop (mkF m 30 #[.val (.int x0), .val (.int (1 : Int32)), .val (.ref o7), .unset] [(.ref a8), (.ref o7)]))
    have Fs9 : Str Z h8 o7 (3 : Int32) [(.int (121 : Int32)), (.int (101 : Int32)), (.int (115 : Int32))] := (F_o7.ext E8)
    refine goV X8 hx hZ hown (hw _ (List.mem_of_getElem? (i := 13) rfl)) (hw _ (List.mem_of_getElem? (i := 14) rfl)) (notFace_of_selects (args := #[]) (mvT hZ (hw _ (List.mem_of_getElem? (i := 16) rfl)))) (hw _ (List.mem_of_getElem? (i := 16) rfl)) (hw _ (List.mem_of_getElem? (i := 15) rfl)) (hw _ (List.mem_of_getElem? (i := 5) rfl)) (hw _ (List.mem_of_getElem? (i := 17) rfl)) (by decide) (rs_yes_yes l Z a0 hw [] o7 a8 h8 Fs9 F_a8 cs hcs ((SC.ext E7).ext E8)) e8 (show Exa Z h8 o7 "java/lang/String" from by obtain ⟨_, _, q, _⟩ := Fs9; exact q) (by rw [hml]; rfl) [(.ref a8)] [] rfl pd2 rfl rfl 0 rfl (hb hby at_30) (by decide) (by decide) (by decide) (by decide) fun T10 L10 v10 q10 X10 => ?_
    obtain ⟨rfl, e10, rfl⟩ := q10
    rw [List.append_nil] at X10
    show Go _ _ _ _ (T10.setTop (mkF m 33 #[.val (.int x0), .val (.int (1 : Int32)), .val (.ref o7), .unset] [(.int (1 : Int32))]))
    refine Go.step (fun _ k => XS.goto X10.here hx rfl (pc0 := 33) (pc' := 42) rfl (hb hby at_33) (by decide) (by decide) k) ?_
    show Go _ _ _ _ (T10.setTop (mkF m 42 #[.val (.int x0), .val (.int (1 : Int32)), .val (.ref o7), .unset] [(.int (1 : Int32))]))
    refine Go.step (fun _ k => XS.istoreN X10.here hx rfl (hb hby at_42) rfl (l' := #[.val (.int x0), .val (.int (1 : Int32)), .val (.ref o7), .val (.int (1 : Int32))]) rfl k) ?_
    show Go _ _ _ _ (T10.setTop (mkF m 43 #[.val (.int x0), .val (.int (1 : Int32)), .val (.ref o7), .val (.int (1 : Int32))] []))
    refine Go.step (fun _ k => XS.iloadN X10.here hx rfl (hb hby at_43) rfl k) ?_
    show Go _ _ _ _ (T10.setTop (mkF m 44 #[.val (.int x0), .val (.int (1 : Int32)), .val (.ref o7), .val (.int (1 : Int32))] [(.int (1 : Int32))]))
    refine Go.step (fun _ k => XS.ifYes X10.here hx rfl (pc0 := 44) (pc' := 49) rfl (hb hby at_44) rfl ((if0 _ _).trans (feq (by decide : ¬ ((1 : Int32) = (0 : Int32)))).2) (by decide) (by decide) k) ?_
    show Go _ _ _ _ (T10.setTop (mkF m 49 #[.val (.int x0), .val (.int (1 : Int32)), .val (.ref o7), .val (.int (1 : Int32))] []))
    refine Go.step (fun _ k => XS.aloadN X10.here hx rfl (hb hby at_49) rfl rfl k) ?_
    show Go _ _ _ _ (T10.setTop (mkF m 50 #[.val (.int x0), .val (.int (1 : Int32)), .val (.ref o7), .val (.int (1 : Int32))] [(.ref o7)]))
    refine goSH X10 hS (by rw [e10]; exact hk) hx hZ (own_EW hw) C8 hown (hw _ (List.mem_of_getElem? (i := 18) rfl)) (hw _ (List.mem_of_getElem? (i := 19) rfl)) (hw _ (List.mem_of_getElem? (i := 2) rfl)) (hw _ (List.mem_of_getElem? (i := 20) rfl)) (by decide) (rp_yes l Z a0 hw [] o7 h8 (F_o7.ext E8) cs hcs ((SC.ext E7).ext E8)) e10 (by rw [hml]; rfl) [(.ref o7)] [] rfl pd3 rfl rfl 0 rfl (hb hby at_50) (by decide) (by decide) (by decide) (by decide) fun T11 L11 v11 q11 X11 hS C11 hZ hown => ?_
    obtain ⟨rfl, E11, rfl⟩ := q11
    rw [List.append_nil] at X11
    have e11 : T11.heap = T11.heap := rfl
    have hk : T11.heap.size ≤ T11.heap.size := Nat.le_refl _
    show Go _ _ _ _ (T11.setTop (mkF m 53 #[.val (.int x0), .val (.int (1 : Int32)), .val (.ref o7), .val (.int (1 : Int32))] [(.int (1 : Int32))]))
    refine Go.step (fun _ k => XS.iloadN X11.here hx rfl (hb hby at_53) rfl k) ?_
    show Go _ _ _ _ (T11.setTop (mkF m 54 #[.val (.int x0), .val (.int (1 : Int32)), .val (.ref o7), .val (.int (1 : Int32))] [(.int (1 : Int32)), (.int (1 : Int32))]))
    refine Go.step (fun _ k => XS.icmpNo X11.here hx rfl (hb hby at_54) rfl (teq (by decide : ((1 : Int32) = (1 : Int32)))).2 k) ?_
    show Go _ _ _ _ (T11.setTop (mkF m 57 #[.val (.int x0), .val (.int (1 : Int32)), .val (.ref o7), .val (.int (1 : Int32))] []))
    refine Go.step (fun _ k => XS.iconst X11.here hx rfl (hb hby at_57) k) ?_
    show Go _ _ _ _ (T11.setTop (mkF m 58 #[.val (.int x0), .val (.int (1 : Int32)), .val (.ref o7), .val (.int (1 : Int32))] [(.int (1 : Int32))]))
    refine Go.step (fun _ k => XS.goto X11.here hx rfl (pc0 := 58) (pc' := 62) rfl (hb hby at_58) (by decide) (by decide) k) ?_
    show Go _ _ _ _ (T11.setTop (mkF m 62 #[.val (.int x0), .val (.int (1 : Int32)), .val (.ref o7), .val (.int (1 : Int32))] [(.int (1 : Int32))]))
    exact leafNH X11 hS (by rw [e11]; exact hk) hZ (own_EW hw) C11 e11 hx (t := .boolean) hret (by simp) hlk (w := (1 : Int32)) rfl (hb hby at_62) ⟨rfl, Fr.nil _⟩ (by decide) (by decide)
set_option maxRecDepth 65536 in
set_option maxHeartbeats 40000000 in
theorem comes_1 {Post : Tables → Env → Array Value → State → Outcome → State → Prop} (hpost : ∀ tb e args s v u, (limb_1_1.after args s (.returned v) u = true ∧ limb_1_2.after args s (.returned v) u = true ∧ True) → ReturnedEndW s (.returned v) u (Jvm.fieldLocs frame_1_writes args s ++ Jvm.arrayLocs frame_1_arrays args s ++ Jvm.staticLocs frame_1_statics s) 8 4160 → Post tb e args s (.returned v) u) :
    ArmFor flags0 classFile x code maxLocals ret World_1 tables_1 room_1 Calls_1 rest_1 Pre_1 Post := by
  intro l hfl _ _ p e ha hc hk s m args below hf hA hF happ hP
  obtain ⟨hcalls, hrest, hpre⟩ := hP
  obtain ⟨-, -, -, hnamed, -, -, -, hat⟩ := (Spec.applies_iff hf).mp happ
  obtain ⟨hg, hn⟩ := and_e (Cond.before_iff.mp (show (Jvm.Cond.and given_1 narrow_1).before args s = true from hpre))
  obtain ⟨hcount, hg0⟩ := and_e hg
  have ha0 := hg0
  obtain ⟨w0, rfl⟩ : ∃ w0 : Value, args = #[w0] := by
    have hs : args.size = 1 := by simpa [Cond.value, given_1] using hcount
    obtain ⟨L⟩ := args
    match L, hs with
    | [w0], _ => exact ⟨w0, rfl⟩
  have hw := fun d (hd : d ∈ tables_1) => atoms_spec (ws := Jvm.Cond.code x code maxLocals ret :: tables_1) hat d (List.mem_cons_of_mem _ hd)
  obtain ⟨i0, ei0⟩ := is_v ha0
  obtain rfl : w0 = (.int i0) := Option.some.inj ei0
  obtain ⟨hsets, -⟩ := atoms_of _ (rest_1_c_eq ▸ (show rest_1_c.before _ s = true from hrest))
  obtain ⟨cs, ecs⟩ := is_v (Cond.before_iff.mp (hsets _ (List.mem_of_getElem? (i := 1) rfl)))
  have SC : Sta s s.heap "java/lang/String" "COMPACT_STRINGS" "Z" (.int cs) := Sta.start (args := #[.int i0]) ecs (Or.inl (hsets _ (List.mem_of_getElem? (i := 0) rfl)))
  have hcw : Jvm.Lit.compactW.before #[.int i0] s = true := hsets _ (List.mem_of_getElem? (i := 2) rfl)
  have hcs : ¬ cs = 0 := fun q => by
    have u := hcw
    subst q
    simp only [Jvm.Lit.compactW, Cond.before, Cond.holds, Cond.value, ecs] at u
    simp [Term.eval] at u
  have H0 : CHv s consts_1 s.vm s.heap := CHv.start (own_EW hw) (fun p hp => hcalls.1 p hp) hcw (hw _ (List.mem_of_getElem? (i := 7) rfl)) (hw _ (List.mem_of_getElem? (i := 6) rfl))
  obtain ⟨n, o, h1, h2, h3, _, L, rfl, ⟨rfl, N⟩, -, hq⟩ := rm0 l s _ hw tables_1 i0 s.heap cs hcs SC p e ha hc hk s m _ below hf ((Spec.applies_iff_loose hf).mp happ).1 ⟨rfl, State.Warmed39.refl s, rfl, H0⟩ trivial
  refine ⟨n, _, h1, h2, h3, hpost _ _ _ _ _ _ ⟨Cond.after_iff.mpr rfl, Cond.after_iff.mpr (eq_i res_at (Term.int_eval (1)) rfl), trivial⟩ ⟨hq.1, hq.2.1, hq.2.2.1, (hq.2.2.2.sift fun y hy => Or.inr (N y hy)).mono (by decide) (by decide)⟩⟩
theorem main_1_1 : Claimed_1_1 := comes_1 fun _ _ _ _ _ _ h hF => ⟨h.1, hF⟩
theorem main_1_2 : Claimed_1_2 := comes_1 fun _ _ _ _ _ _ h hF => ⟨h.2.1, hF⟩
end Jvm.Pilot.@@N@@
namespace Jvm.Pilot.@@N@@
open Jvm Jvm.ClassFile Sem Op Lib Jvm.Free Jvm.Stand Jvm.Pilot.@@N@@.Jvm.D
/-! MADE BY PROGRAM (witnessworld.py) out of the Statement's table words and the real class files: 17 classes; the members and pool entries that the words name. The judged class is class 1, her method 1. -/
namespace start1
open Jvm.ClassFile
def u (s : String) : CpInfo := .utf8 (stringToUtf16 s)
/-- a pool by its gaps: so many unusable entries, then the entry; so many at the end -/
def gap : Nat → List CpInfo → List CpInfo
  | 0, r => r
  | n + 1, r => .unusable :: gap n r
def poolList (es : List (Nat × CpInfo)) (last : Nat) : List CpInfo := es.foldr (fun e r => gap e.1 (e.2 :: r)) (gap last [])
def pool (es : List (Nat × CpInfo)) (last : Nat) : Array CpInfo := ⟨poolList es last⟩
def fileOf (pool : Array CpInfo) (this : Nat) (attrs : Array Attribute := #[]) (ms : Array MethodInfo := #[]) (fl : Nat := 33) (sup : Nat := 0) (ifs : Array Nat := #[]) (fds : Array FieldInfo := #[]) : ClassFile where
  minorVersion := 0
  majorVersion := 65
  constantPool := pool
  accessFlags := fl
  thisClass := this
  superClass := sup
  interfaces := ifs
  fields := fds
  methods := ms
  attributes := attrs
def plain (name : String) (sup : Option ClassId) : Class where
  name := name
  kind := .ordinary
  loader := none
  accessFlags := 33
  super := sup
  interfaces := #[]
  cf := none
  fields := #[]
  methods := #[]
  instanceTypes := #[]
  staticTypes := #[]
  resolved := #[]
  callSites := []
  init := .initialized
  statics := none
  mirror := none

def pool0 : Array CpInfo := pool [(5, u "<init>"), (0, u "()V"), (1, .class_ 10), (1, u "java/lang/Object")] 113

def k0m0 : Method := { name := "<init>", desc := "()V", sig := { parameters := [], returnType := none }, accessFlags := 1, code := none }
/-- java/lang/Object -/
def k0 : Class := { plain "java/lang/Object" none with
  accessFlags := 33
  interfaces := #[]
  cf := some (fileOf pool0 8 #[] #[{ accessFlags := 1, nameIndex := 5, descriptorIndex := 6, attributes := #[] }] 33 0 #[] #[])
  fields := #[]
  methods := #[k0m0]
  instanceTypes := #[]
  staticTypes := #[]
  resolved := Array.replicate 124 none
  statics := none }

def pool1 : Array CpInfo := pool [(2, .class_ 4), (1, u "java/lang/Object"), (0, u "<init>"), (0, u "()V"), (0, .methodref 8 9), (0, .class_ 10), (0, .nameAndType 11 12), (0, u "com/example/vestwright/vestwright/PlainFlags"), (0, u "format"), (0, u "(Z)Ljava/lang/String;"), (0, .string 14), (0, u "yes"), (0, .methodref 16 17), (0, .class_ 18), (0, .nameAndType 19 20), (0, u "java/lang/String"), (0, u "equals"), (0, u "(Ljava/lang/Object;)Z"), (0, .string 22), (0, u "no"), (0, .methodref 8 24), (0, .nameAndType 25 26), (0, u "parse"), (0, u "(Ljava/lang/String;)Z"), (0, .class_ 28), (0, u "com/example/vestwright/vestwright/PlainFlagsFormatPinLaw"), (2, u "law"), (0, u "(I)Z")] 3

def k1m0 : Method := { name := "<init>", desc := "()V", sig := { parameters := [], returnType := none }, accessFlags := 2, code := none }
def k1c1 : Code := { maxStack := 2, maxLocals := 4, code := code, exceptionTable := #[], attributes := #[] }
def k1m1 : Method := { name := "law", desc := "(I)Z", sig := { parameters := [.int], returnType := some .boolean }, accessFlags := 9, code := some k1c1 }
/-- com/example/vestwright/vestwright/PlainFlagsFormatPinLaw -/
def k1 : Class := { plain "com/example/vestwright/vestwright/PlainFlagsFormatPinLaw" (some 0) with
  accessFlags := 49
  interfaces := #[]
  cf := some (fileOf pool1 27 #[] #[{ accessFlags := 2, nameIndex := 5, descriptorIndex := 6, attributes := #[] }, { accessFlags := 9, nameIndex := 31, descriptorIndex := 32, attributes := #[] }] 49 2 #[] #[])
  fields := #[]
  methods := #[k1m0, k1m1]
  instanceTypes := #[]
  staticTypes := #[]
  resolved := Array.replicate 36 none
  statics := none }

def pool2 : Array CpInfo := pool [(2, .class_ 4), (1, u "java/lang/Object"), (0, u "<init>"), (0, u "()V"), (0, .class_ 8), (0, u "com/example/vestwright/vestwright/PlainFlags"), (0, .string 10), (0, u "yes"), (0, .methodref 12 13), (0, .class_ 14), (0, .nameAndType 15 16), (0, u "java/lang/String"), (0, u "equals"), (0, u "(Ljava/lang/Object;)Z"), (0, .string 18), (0, u "no"), (17, u "WORDS"), (0, u "Ljava/util/List;"), (0, u "YES"), (0, u "Ljava/lang/String;"), (1, u "NO"), (4, u "parse"), (0, u "(Ljava/lang/String;)Z"), (1, u "format"), (0, u "(Z)Ljava/lang/String;")] 18

def k2m0 : Method := { name := "<init>", desc := "()V", sig := { parameters := [], returnType := none }, accessFlags := 2, code := none }
def k2c1 : Code := { maxStack := 3, maxLocals := 1, code := prog_34_method_2_code, exceptionTable := #[], attributes := #[] }
def k2m1 : Method := { name := "parse", desc := "(Ljava/lang/String;)Z", sig := { parameters := [(.object "java/lang/String")], returnType := some .boolean }, accessFlags := 8, code := some k2c1 }
def k2c2 : Code := { maxStack := 1, maxLocals := 1, code := prog_34_method_3_code, exceptionTable := #[], attributes := #[] }
def k2m2 : Method := { name := "format", desc := "(Z)Ljava/lang/String;", sig := { parameters := [.boolean], returnType := some (.object "java/lang/String") }, accessFlags := 8, code := some k2c2 }
/-- com/example/vestwright/vestwright/PlainFlags -/
def k2 : Class := { plain "com/example/vestwright/vestwright/PlainFlags" (some 0) with
  accessFlags := 32
  interfaces := #[]
  cf := some (fileOf pool2 7 #[] #[{ accessFlags := 2, nameIndex := 5, descriptorIndex := 6, attributes := #[] }, { accessFlags := 8, nameIndex := 46, descriptorIndex := 47, attributes := #[] }, { accessFlags := 8, nameIndex := 49, descriptorIndex := 50, attributes := #[] }] 32 2 #[] #[{ accessFlags := 26, nameIndex := 38, descriptorIndex := 39, attributes := #[] }, { accessFlags := 26, nameIndex := 41, descriptorIndex := 39, attributes := #[] }, { accessFlags := 24, nameIndex := 36, descriptorIndex := 37, attributes := #[] }])
  fields := #[{ name := "YES", type := (.object "java/lang/String"), accessFlags := 26, slot := 0, constantValue := 0 }, { name := "NO", type := (.object "java/lang/String"), accessFlags := 26, slot := 1, constantValue := 0 }, { name := "WORDS", type := (.object "java/util/List"), accessFlags := 24, slot := 2, constantValue := 0 }]
  methods := #[k2m0, k2m1, k2m2]
  instanceTypes := #[]
  staticTypes := #[(.object "java/lang/String"), (.object "java/lang/String"), (.object "java/util/List")]
  resolved := Array.replicate 69 none
  statics := none }

def pool3 : Array CpInfo := pool [(1, .class_ 2), (0, u "java/io/Serializable"), (0, .class_ 4), (0, u "java/lang/Object")] 2

/-- java/io/Serializable -/
def k3 : Class := { plain "java/io/Serializable" (some 0) with
  accessFlags := 1537
  interfaces := #[]
  cf := some (fileOf pool3 1 #[] #[] 1537 3 #[] #[])
  fields := #[]
  methods := #[]
  instanceTypes := #[]
  staticTypes := #[]
  resolved := Array.replicate 7 none
  statics := none }

def pool4 : Array CpInfo := pool [(1, .class_ 2), (0, u "java/lang/Comparable"), (0, .class_ 4), (0, u "java/lang/Object")] 7

/-- java/lang/Comparable -/
def k4 : Class := { plain "java/lang/Comparable" (some 0) with
  accessFlags := 1537
  interfaces := #[]
  cf := some (fileOf pool4 1 #[] #[] 1537 3 #[] #[])
  fields := #[]
  methods := #[]
  instanceTypes := #[]
  staticTypes := #[]
  resolved := Array.replicate 12 none
  statics := none }

def pool5 : Array CpInfo := pool [(2, .class_ 4), (1, u "java/lang/CharSequence"), (42, .class_ 48), (0, u "java/lang/CharSequence$1CodePointIterator"), (10, .class_ 60), (0, u "java/lang/CharSequence$1CharIterator"), (5, .class_ 67), (0, u "java/lang/Object")] 63

/-- java/lang/CharSequence -/
def k5 : Class := { plain "java/lang/CharSequence" (some 0) with
  accessFlags := 1537
  interfaces := #[]
  cf := some (fileOf pool5 2 #[.nestMembers #[47, 59]] #[] 1537 66 #[] #[])
  fields := #[]
  methods := #[]
  instanceTypes := #[]
  staticTypes := #[]
  resolved := Array.replicate 131 none
  statics := none }

def pool6 : Array CpInfo := pool [(1, .class_ 2), (0, u "java/lang/constant/Constable"), (0, .class_ 4), (0, u "java/lang/Object")] 6

/-- java/lang/constant/Constable -/
def k6 : Class := { plain "java/lang/constant/Constable" (some 0) with
  accessFlags := 1537
  interfaces := #[]
  cf := some (fileOf pool6 1 #[] #[] 1537 3 #[] #[])
  fields := #[]
  methods := #[]
  instanceTypes := #[]
  staticTypes := #[]
  resolved := Array.replicate 11 none
  statics := none }

def pool7 : Array CpInfo := pool [(1, .class_ 2), (0, u "java/lang/constant/ConstantDesc"), (0, .class_ 4), (0, u "java/lang/Object")] 32

/-- java/lang/constant/ConstantDesc -/
def k7 : Class := { plain "java/lang/constant/ConstantDesc" (some 0) with
  accessFlags := 1537
  interfaces := #[]
  cf := some (fileOf pool7 1 #[] #[] 1537 3 #[] #[])
  fields := #[]
  methods := #[]
  instanceTypes := #[]
  staticTypes := #[]
  resolved := Array.replicate 37 none
  statics := none }

def pool8 : Array CpInfo := pool [(2, .class_ 4), (1, u "java/lang/Object"), (0, u "<init>"), (0, u "()V"), (2, .fieldref 10 11), (0, .class_ 12), (0, .nameAndType 13 14), (0, u "java/lang/String"), (0, u "value"), (0, u "[B"), (0, .fieldref 10 16), (0, .nameAndType 17 18), (0, u "coder"), (0, u "B"), (2, u "hash"), (0, u "I"), (2, u "hashIsZero"), (0, u "Z"), (11, .fieldref 10 39), (0, .nameAndType 40 26), (0, u "COMPACT_STRINGS"), (66, .class_ 109), (1, u "java/lang/StringLatin1"), (431, .methodref 107 542), (0, .nameAndType 543 544), (0, u "equals"), (0, u "([B[B)Z"), (28, u "(Ljava/lang/Object;)Z"), (1, .class_ 576), (0, u "java/lang/CharSequence"), (22, u "CASE_INSENSITIVE_ORDER"), (0, u "Ljava/util/Comparator;"), (500, u "serialPersistentFields"), (0, u "[Ljava/io/ObjectStreamField;"), (0, .class_ 1104), (0, u "java/lang/String$CaseInsensitiveComparator"), (1, .class_ 1107), (0, u "java/io/Serializable"), (0, .class_ 1109), (0, u "java/lang/Comparable"), (0, .class_ 1111), (0, u "java/lang/constant/Constable"), (0, .class_ 1113), (0, u "java/lang/constant/ConstantDesc"), (2, u "serialVersionUID"), (0, u "J"), (3, u "REPL"), (0, u "C"), (2, u "LATIN1"), (1, u "UTF16")] 323

def k8m0 : Method := { name := "<init>", desc := "()V", sig := { parameters := [], returnType := none }, accessFlags := 1, code := none }
def k8c1 : Code := { maxStack := 2, maxLocals := 3, code := jdk_42_method_66_code, exceptionTable := #[], attributes := #[] }
def k8m1 : Method := { name := "equals", desc := "(Ljava/lang/Object;)Z", sig := { parameters := [(.object "java/lang/Object")], returnType := some .boolean }, accessFlags := 1, code := some k8c1 }
/-- java/lang/String -/
def k8 : Class := { plain "java/lang/String" (some 0) with
  accessFlags := 49
  interfaces := #[3, 4, 5, 6, 7]
  cf := some (fileOf pool8 10 #[.nestMembers #[1103]] #[{ accessFlags := 1, nameIndex := 5, descriptorIndex := 6, attributes := #[] }, { accessFlags := 1, nameIndex := 543, descriptorIndex := 573, attributes := #[] }] 49 2 #[1106, 1108, 575, 1110, 1112] #[{ accessFlags := 18, nameIndex := 13, descriptorIndex := 14, attributes := #[] }, { accessFlags := 18, nameIndex := 17, descriptorIndex := 18, attributes := #[] }, { accessFlags := 2, nameIndex := 21, descriptorIndex := 22, attributes := #[] }, { accessFlags := 2, nameIndex := 25, descriptorIndex := 26, attributes := #[] }, { accessFlags := 26, nameIndex := 1116, descriptorIndex := 1117, attributes := #[] }, { accessFlags := 24, nameIndex := 40, descriptorIndex := 26, attributes := #[] }, { accessFlags := 26, nameIndex := 1101, descriptorIndex := 1102, attributes := #[] }, { accessFlags := 26, nameIndex := 1121, descriptorIndex := 1122, attributes := #[] }, { accessFlags := 25, nameIndex := 599, descriptorIndex := 600, attributes := #[] }, { accessFlags := 24, nameIndex := 1125, descriptorIndex := 18, attributes := #[] }, { accessFlags := 24, nameIndex := 1127, descriptorIndex := 18, attributes := #[] }])
  fields := #[{ name := "value", type := (.array .byte), accessFlags := 18, slot := 0, constantValue := 0 }, { name := "coder", type := .byte, accessFlags := 18, slot := 1, constantValue := 0 }, { name := "hash", type := .int, accessFlags := 2, slot := 2, constantValue := 0 }, { name := "hashIsZero", type := .boolean, accessFlags := 2, slot := 3, constantValue := 0 }, { name := "serialVersionUID", type := .long, accessFlags := 26, slot := 0, constantValue := 0 }, { name := "COMPACT_STRINGS", type := .boolean, accessFlags := 24, slot := 1, constantValue := 0 }, { name := "serialPersistentFields", type := (.array (.object "java/io/ObjectStreamField")), accessFlags := 26, slot := 2, constantValue := 0 }, { name := "REPL", type := .char, accessFlags := 26, slot := 3, constantValue := 0 }, { name := "CASE_INSENSITIVE_ORDER", type := (.object "java/util/Comparator"), accessFlags := 25, slot := 4, constantValue := 0 }, { name := "LATIN1", type := .byte, accessFlags := 24, slot := 5, constantValue := 0 }, { name := "UTF16", type := .byte, accessFlags := 24, slot := 6, constantValue := 0 }]
  methods := #[k8m0, k8m1]
  instanceTypes := #[(.array .byte), .byte, .int, .boolean]
  staticTypes := #[.long, .boolean, (.array (.object "java/io/ObjectStreamField")), .char, (.object "java/util/Comparator"), .byte, .byte]
  resolved := Array.replicate 1451 none
  statics := some 0 }

def pool9 : Array CpInfo := pool [(4, .class_ 6), (1, u "java/lang/Object"), (0, u "<init>"), (0, u "()V"), (5, .class_ 16), (1, u "java/lang/StringLatin1"), (104, u "$assertionsDisabled"), (0, u "Z"), (98, .class_ 223), (1, u "java/lang/StringLatin1$LinesSpliterator"), (57, u "equals"), (0, u "([B[B)Z"), (107, .class_ 391), (0, u "java/lang/StringLatin1$CharsSpliterator")] 3

def k9m0 : Method := { name := "<init>", desc := "()V", sig := { parameters := [], returnType := none }, accessFlags := 0, code := none }
def k9c1 : Code := { maxStack := 3, maxLocals := 3, code := jdk_43_method_13_code, exceptionTable := #[], attributes := #[] }
def k9m1 : Method := { name := "equals", desc := "([B[B)Z", sig := { parameters := [(.array .byte), (.array .byte)], returnType := some .boolean }, accessFlags := 9, code := some k9c1 }
/-- java/lang/StringLatin1 -/
def k9 : Class := { plain "java/lang/StringLatin1" (some 0) with
  accessFlags := 48
  interfaces := #[]
  cf := some (fileOf pool9 14 #[.nestMembers #[390, 221]] #[{ accessFlags := 0, nameIndex := 7, descriptorIndex := 8, attributes := #[] }, { accessFlags := 9, nameIndex := 281, descriptorIndex := 282, attributes := #[] }] 48 4 #[] #[{ accessFlags := 4120, nameIndex := 121, descriptorIndex := 122, attributes := #[] }])
  fields := #[{ name := "$assertionsDisabled", type := .boolean, accessFlags := 4120, slot := 0, constantValue := 0 }]
  methods := #[k9m0, k9m1]
  instanceTypes := #[]
  staticTypes := #[.boolean]
  resolved := Array.replicate 395 none
  statics := none }

def pool10 : Array CpInfo := pool [(2, .class_ 4), (1, u "java/lang/Object"), (0, u "<init>"), (0, u "()V"), (17, .class_ 26), (1, u "jdk/internal/util/Preconditions"), (28, .class_ 56), (0, u "jdk/internal/util/Preconditions$4"), (57, .class_ 115), (0, u "jdk/internal/util/Preconditions$1"), (7, u "SIOOBE_FORMATTER"), (0, u "Ljava/util/function/BiFunction;"), (0, .class_ 126), (0, u "jdk/internal/util/Preconditions$2"), (3, u "AIOOBE_FORMATTER"), (0, .class_ 132), (0, u "jdk/internal/util/Preconditions$3"), (3, u "IOOBE_FORMATTER")] 57

def k10m0 : Method := { name := "<init>", desc := "()V", sig := { parameters := [], returnType := none }, accessFlags := 1, code := none }
/-- jdk/internal/util/Preconditions -/
def k10 : Class := { plain "jdk/internal/util/Preconditions" (some 0) with
  accessFlags := 33
  interfaces := #[]
  cf := some (fileOf pool10 24 #[.nestMembers #[55, 131, 125, 114]] #[{ accessFlags := 1, nameIndex := 5, descriptorIndex := 6, attributes := #[] }] 33 2 #[] #[{ accessFlags := 25, nameIndex := 123, descriptorIndex := 124, attributes := #[] }, { accessFlags := 25, nameIndex := 130, descriptorIndex := 124, attributes := #[] }, { accessFlags := 25, nameIndex := 136, descriptorIndex := 124, attributes := #[] }])
  fields := #[{ name := "SIOOBE_FORMATTER", type := (.object "java/util/function/BiFunction"), accessFlags := 25, slot := 0, constantValue := 0 }, { name := "AIOOBE_FORMATTER", type := (.object "java/util/function/BiFunction"), accessFlags := 25, slot := 1, constantValue := 0 }, { name := "IOOBE_FORMATTER", type := (.object "java/util/function/BiFunction"), accessFlags := 25, slot := 2, constantValue := 0 }]
  methods := #[k10m0]
  instanceTypes := #[]
  staticTypes := #[(.object "java/util/function/BiFunction"), (.object "java/util/function/BiFunction"), (.object "java/util/function/BiFunction")]
  resolved := Array.replicate 194 none
  statics := some 1 }

def pool11 : Array CpInfo := pool [(9, u "<init>"), (6, .class_ 18), (1, u "java/lang/Object"), (0, u "()V"), (1, .class_ 23), (1, u "jdk/internal/util/ArraysSupport"), (0, u "LOG2_ARRAY_LONG_INDEX_SCALE"), (0, u "I"), (2, u "U"), (0, u "Ljdk/internal/misc/Unsafe;"), (8, u "BIG_ENDIAN"), (0, u "Z"), (8, u "LOG2_BYTE_BIT_SIZE"), (4, u "LOG2_ARRAY_INT_INDEX_SCALE"), (54, u "JLA"), (0, u "Ljdk/internal/access/JavaLangAccess;"), (11, u "LOG2_ARRAY_BOOLEAN_INDEX_SCALE"), (9, u "LOG2_ARRAY_BYTE_INDEX_SCALE"), (5, u "LOG2_ARRAY_CHAR_INDEX_SCALE"), (5, u "LOG2_ARRAY_SHORT_INDEX_SCALE"), (18, u "LOG2_ARRAY_FLOAT_INDEX_SCALE"), (24, u "LOG2_ARRAY_DOUBLE_INDEX_SCALE"), (89, u "T_BOOLEAN"), (2, u "T_CHAR"), (1, u "T_FLOAT"), (1, u "T_DOUBLE"), (1, u "T_BYTE"), (1, u "T_SHORT"), (1, u "T_INT"), (1, u "T_LONG"), (1, u "SOFT_MAX_ARRAY_LENGTH")] 83

def k11m0 : Method := { name := "<init>", desc := "()V", sig := { parameters := [], returnType := none }, accessFlags := 2, code := none }
/-- jdk/internal/util/ArraysSupport -/
def k11 : Class := { plain "jdk/internal/util/ArraysSupport" (some 0) with
  accessFlags := 33
  interfaces := #[]
  cf := some (fileOf pool11 21 #[] #[{ accessFlags := 2, nameIndex := 9, descriptorIndex := 19, attributes := #[] }] 33 16 #[] #[{ accessFlags := 24, nameIndex := 28, descriptorIndex := 29, attributes := #[] }, { accessFlags := 26, nameIndex := 38, descriptorIndex := 39, attributes := #[] }, { accessFlags := 25, nameIndex := 121, descriptorIndex := 25, attributes := #[] }, { accessFlags := 25, nameIndex := 131, descriptorIndex := 25, attributes := #[] }, { accessFlags := 25, nameIndex := 137, descriptorIndex := 25, attributes := #[] }, { accessFlags := 25, nameIndex := 143, descriptorIndex := 25, attributes := #[] }, { accessFlags := 25, nameIndex := 53, descriptorIndex := 25, attributes := #[] }, { accessFlags := 25, nameIndex := 24, descriptorIndex := 25, attributes := #[] }, { accessFlags := 25, nameIndex := 162, descriptorIndex := 25, attributes := #[] }, { accessFlags := 25, nameIndex := 187, descriptorIndex := 25, attributes := #[] }, { accessFlags := 26, nameIndex := 48, descriptorIndex := 25, attributes := #[] }, { accessFlags := 25, nameIndex := 277, descriptorIndex := 25, attributes := #[] }, { accessFlags := 25, nameIndex := 280, descriptorIndex := 25, attributes := #[] }, { accessFlags := 25, nameIndex := 282, descriptorIndex := 25, attributes := #[] }, { accessFlags := 25, nameIndex := 284, descriptorIndex := 25, attributes := #[] }, { accessFlags := 25, nameIndex := 286, descriptorIndex := 25, attributes := #[] }, { accessFlags := 25, nameIndex := 288, descriptorIndex := 25, attributes := #[] }, { accessFlags := 25, nameIndex := 290, descriptorIndex := 25, attributes := #[] }, { accessFlags := 25, nameIndex := 292, descriptorIndex := 25, attributes := #[] }, { accessFlags := 26, nameIndex := 108, descriptorIndex := 109, attributes := #[] }, { accessFlags := 25, nameIndex := 294, descriptorIndex := 25, attributes := #[] }])
  fields := #[{ name := "U", type := (.object "jdk/internal/misc/Unsafe"), accessFlags := 24, slot := 0, constantValue := 0 }, { name := "BIG_ENDIAN", type := .boolean, accessFlags := 26, slot := 1, constantValue := 0 }, { name := "LOG2_ARRAY_BOOLEAN_INDEX_SCALE", type := .int, accessFlags := 25, slot := 2, constantValue := 0 }, { name := "LOG2_ARRAY_BYTE_INDEX_SCALE", type := .int, accessFlags := 25, slot := 3, constantValue := 0 }, { name := "LOG2_ARRAY_CHAR_INDEX_SCALE", type := .int, accessFlags := 25, slot := 4, constantValue := 0 }, { name := "LOG2_ARRAY_SHORT_INDEX_SCALE", type := .int, accessFlags := 25, slot := 5, constantValue := 0 }, { name := "LOG2_ARRAY_INT_INDEX_SCALE", type := .int, accessFlags := 25, slot := 6, constantValue := 0 }, { name := "LOG2_ARRAY_LONG_INDEX_SCALE", type := .int, accessFlags := 25, slot := 7, constantValue := 0 }, { name := "LOG2_ARRAY_FLOAT_INDEX_SCALE", type := .int, accessFlags := 25, slot := 8, constantValue := 0 }, { name := "LOG2_ARRAY_DOUBLE_INDEX_SCALE", type := .int, accessFlags := 25, slot := 9, constantValue := 0 }, { name := "LOG2_BYTE_BIT_SIZE", type := .int, accessFlags := 26, slot := 10, constantValue := 0 }, { name := "T_BOOLEAN", type := .int, accessFlags := 25, slot := 11, constantValue := 0 }, { name := "T_CHAR", type := .int, accessFlags := 25, slot := 12, constantValue := 0 }, { name := "T_FLOAT", type := .int, accessFlags := 25, slot := 13, constantValue := 0 }, { name := "T_DOUBLE", type := .int, accessFlags := 25, slot := 14, constantValue := 0 }, { name := "T_BYTE", type := .int, accessFlags := 25, slot := 15, constantValue := 0 }, { name := "T_SHORT", type := .int, accessFlags := 25, slot := 16, constantValue := 0 }, { name := "T_INT", type := .int, accessFlags := 25, slot := 17, constantValue := 0 }, { name := "T_LONG", type := .int, accessFlags := 25, slot := 18, constantValue := 0 }, { name := "JLA", type := (.object "jdk/internal/access/JavaLangAccess"), accessFlags := 26, slot := 19, constantValue := 0 }, { name := "SOFT_MAX_ARRAY_LENGTH", type := .int, accessFlags := 25, slot := 20, constantValue := 0 }]
  methods := #[k11m0]
  instanceTypes := #[]
  staticTypes := #[(.object "jdk/internal/misc/Unsafe"), .boolean, .int, .int, .int, .int, .int, .int, .int, .int, .int, .int, .int, .int, .int, .int, .int, .int, .int, (.object "jdk/internal/access/JavaLangAccess"), .int]
  resolved := Array.replicate 378 none
  statics := none }

def pool12 : Array CpInfo := pool [(1, u "java/lang/Cloneable"), (0, .class_ 1), (0, u "java/lang/Object"), (0, .class_ 3)] 3

/-- java/lang/Cloneable -/
def k12 : Class := { plain "java/lang/Cloneable" (some 0) with
  accessFlags := 1537
  interfaces := #[]
  cf := some (fileOf pool12 2 #[] #[] 1537 4 #[] #[])
  fields := #[]
  methods := #[]
  instanceTypes := #[]
  staticTypes := #[]
  resolved := Array.replicate 8 none
  statics := none }

/-- the primitive byte -/
def k13 : Class := { plain "byte" none with kind := .primitive 'B', accessFlags := 0x411 }
/-- [B -/
def k14 : Class := { plain "[B" (some 0) with kind := .array 13 .byte, interfaces := #[12, 3], accessFlags := 1041 }

/-- the primitive int -/
def k15 : Class := { plain "int" none with kind := .primitive 'I', accessFlags := 0x411 }
/-- [I -/
def k16 : Class := { plain "[I" (some 0) with kind := .array 15 .int, interfaces := #[12, 3], accessFlags := 1041 }

def heap : Heap := #[{ cls := 8, slots := #[.long 0, .int 1, .null, .int 0, .null, .int 0, .int 0], vm := .statics 8 },
  { cls := 10, slots := #[.null, .null, .null], vm := .statics 10 }]
def classes : Array Class := #[k0, k1, k2, k3, k4, k5, k6, k7, k8, k9, k10, k11, k12, k13, k14, k15, k16]
def interned : List (Array UInt16 × Addr) := []
def slotsUsed : Nat := 10
def theMethod : MethodId := ⟨1, 1⟩
def args0 : Array Value := #[.int 1]
def aboutOver (below : List Frame) : State where
  vm := { classes := classes, interned := interned.toArray }
  heap := heap
  slotsUsed := slotsUsed
  threads := #[{ frames := .invoking theMethod args0 :: below }]
def below0 : List Frame := [.native { method := ⟨0, 0⟩, args := #[] }]
def about1 : State := aboutOver below0
def p0 : Program := .bare "" "" ""
def e0 : Env := launch0.env 0 0 0
theorem w_frames : about1.frames = Frame.invoking theMethod args0 :: below0 := rfl
set_option maxRecDepth 65536 in
theorem w_args : argsFit about1.vm theMethod args0 = true := by decide +kernel
set_option maxRecDepth 65536 in
theorem w_heap : heapFits about1 = true := by decide +kernel
set_option maxRecDepth 65536 in
theorem w_runnable : about1.curStatus? = some .runnable := by decide +kernel
set_option maxRecDepth 65536 in
theorem w_alone : about1.alone = true := by decide +kernel
set_option maxRecDepth 65536 in
theorem w_named : about1.methodNamed? x = some theMethod := by decide +kernel
set_option maxRecDepth 65536 in
theorem w_hears : about1.hears theMethod below0 = true := by decide +kernel
set_option maxRecDepth 65536 in
theorem w_ripe : about1.ripe theMethod args0 below0 = true := by decide +kernel
theorem w_running : about1.status = .running := rfl
set_option maxRecDepth 65536 in
theorem w_room : about1.hasRoom e0.platform room_1 = true :=
  launch0.hasRoom_least _ room_1 (by decide +kernel) (by decide +kernel) (by decide +kernel) (by decide +kernel) (by decide +kernel) (by decide +kernel)
theorem allAtoms_all (ts : List Jvm.Cond) (a : Array Jvm.Value) (st : Jvm.State) : (allAtoms ts).before a st = ts.all (fun c => c.before a st) := by
  induction ts with
  | nil => rfl
  | cons c t ih =>
    show (Jvm.Cond.and c (allAtoms t)).before a st = _
    rw [Jvm.Cond.before_and, ih, List.all_cons]
def words1 : List Jvm.Cond := Jvm.Cond.code x code maxLocals ret :: tables_1
/-- a 'code' word, met by the world's own term for the bytes: nothing is compared byte by byte -/
theorem code_word {y : MethodName} {bytes : ByteArray} {mx : Nat} {rt : Option FieldType} {a : Array Value} {s : State} {m : MethodId} {meth : Method} {c : Code} (h1 : s.methodNamed? y = some m) (h2 : s.vm.method? m = some meth) (h3 : meth.code = some c) (h4 : c.code = bytes)
    (h5 : (c.maxLocals == mx && c.exceptionTable.isEmpty && decide (c.maxStack ≤ mostOperands) && decide (meth.sig.returnType = rt) && !meth.locks && decide (parseMethodDescriptor y.desc = some meth.sig)) = true) : (Jvm.Cond.code y bytes mx rt).before a s = true := by
  simp only [Bool.and_eq_true, beq_iff_eq, Bool.not_eq_true', decide_eq_true_eq] at h5
  obtain ⟨⟨⟨⟨⟨g1, g2⟩, g3⟩, g4⟩, g5⟩, g6⟩ := h5
  simp [Cond.before, Cond.holds, Cond.value, h1, h2, h3, h4, g1, g2, g3, g4, g5, g6]
def isCode : Jvm.Cond → Bool
  | .code _ _ _ _ => true
  | _ => false
theorem all_split {L : List Jvm.Cond} {P : Jvm.Cond → Bool} (h1 : L.all (fun c => isCode c || P c) = true) (h2 : ∀ c ∈ L.filter isCode, P c = true) : L.all P = true := by
  refine List.all_eq_true.mpr fun c hc => ?_
  have h := List.all_eq_true.mp h1 c hc
  rcases Bool.eq_false_or_eq_true (isCode c) with hi | hi
  · exact h2 c (List.mem_filter.mpr ⟨hc, hi⟩)
  · simpa [hi] using h
set_option maxRecDepth 65536 in
theorem w_c0 : (Jvm.Cond.code x code maxLocals ret).before args0 about1 = true := code_word (m := ⟨1, 1⟩) (meth := k1m1) (c := k1c1) (by decide +kernel) rfl rfl rfl (by decide +kernel)
set_option maxRecDepth 65536 in
theorem w_c1 : (Jvm.Cond.code ({ cls := "com/example/vestwright/vestwright/PlainFlags", name := "format", desc := "(Z)Ljava/lang/String;" } : Jvm.MethodName) prog_34_method_3_code (1 : Nat) (Option.some (Jvm.ClassFile.FieldType.object "java/lang/String"))).before args0 about1 = true := code_word (m := ⟨2, 2⟩) (meth := k2m2) (c := k2c2) (by decide +kernel) rfl rfl rfl (by decide +kernel)
set_option maxRecDepth 65536 in
theorem w_c2 : (Jvm.Cond.code ({ cls := "java/lang/String", name := "equals", desc := "(Ljava/lang/Object;)Z" } : Jvm.MethodName) jdk_42_method_66_code (3 : Nat) (Option.some Jvm.ClassFile.FieldType.boolean)).before args0 about1 = true := code_word (m := ⟨8, 1⟩) (meth := k8m1) (c := k8c1) (by decide +kernel) rfl rfl rfl (by decide +kernel)
set_option maxRecDepth 65536 in
theorem w_c3 : (Jvm.Cond.code ({ cls := "com/example/vestwright/vestwright/PlainFlags", name := "parse", desc := "(Ljava/lang/String;)Z" } : Jvm.MethodName) prog_34_method_2_code (1 : Nat) (Option.some Jvm.ClassFile.FieldType.boolean)).before args0 about1 = true := code_word (m := ⟨2, 1⟩) (meth := k2m1) (c := k2c1) (by decide +kernel) rfl rfl rfl (by decide +kernel)
set_option maxRecDepth 65536 in
theorem w_c4 : (Jvm.Cond.code ({ cls := "java/lang/StringLatin1", name := "equals", desc := "([B[B)Z" } : Jvm.MethodName) jdk_43_method_13_code (3 : Nat) (Option.some Jvm.ClassFile.FieldType.boolean)).before args0 about1 = true := code_word (m := ⟨9, 1⟩) (meth := k9m1) (c := k9c1) (by decide +kernel) rfl rfl rfl (by decide +kernel)
def codes1 : List Jvm.Cond := [Jvm.Cond.code x code maxLocals ret, Jvm.Cond.code ({ cls := "com/example/vestwright/vestwright/PlainFlags", name := "format", desc := "(Z)Ljava/lang/String;" } : Jvm.MethodName) prog_34_method_3_code (1 : Nat) (Option.some (Jvm.ClassFile.FieldType.object "java/lang/String")), Jvm.Cond.code ({ cls := "java/lang/String", name := "equals", desc := "(Ljava/lang/Object;)Z" } : Jvm.MethodName) jdk_42_method_66_code (3 : Nat) (Option.some Jvm.ClassFile.FieldType.boolean), Jvm.Cond.code ({ cls := "com/example/vestwright/vestwright/PlainFlags", name := "parse", desc := "(Ljava/lang/String;)Z" } : Jvm.MethodName) prog_34_method_2_code (1 : Nat) (Option.some Jvm.ClassFile.FieldType.boolean), Jvm.Cond.code ({ cls := "java/lang/StringLatin1", name := "equals", desc := "([B[B)Z" } : Jvm.MethodName) jdk_43_method_13_code (3 : Nat) (Option.some Jvm.ClassFile.FieldType.boolean)]
set_option maxRecDepth 65536 in
theorem codes_eq : words1.filter isCode = codes1 := rfl
theorem w_codes : ∀ c ∈ words1.filter isCode, c.before args0 about1 = true := by
  rw [codes_eq]
  intro c hc
  simp only [codes1, List.mem_cons, List.not_mem_nil, or_false] at hc
  rcases hc with rfl | rfl | rfl | rfl | rfl
  · exact w_c0
  · exact w_c1
  · exact w_c2
  · exact w_c3
  · exact w_c4
set_option maxRecDepth 65536 in
theorem w_t1 : (words1.take 24).all (fun c => isCode c || c.before args0 about1) = true := by decide +kernel
set_option maxRecDepth 65536 in
theorem w_t2 : (words1.drop 24).all (fun c => isCode c || c.before args0 about1) = true := by decide +kernel
theorem w_tables : (allAtoms (Jvm.Cond.code x code maxLocals ret :: tables_1)).before args0 about1 = true := by
  rw [allAtoms_all]
  show words1.all (fun c => c.before args0 about1) = true
  refine all_split ?_ w_codes
  rw [← List.take_append_drop 24 words1, List.all_append, w_t1, w_t2]
  rfl
set_option maxRecDepth 65536 in
theorem w_rest : rest_1_c.before args0 about1 = true := by decide +kernel
set_option maxRecDepth 65536 in
theorem w_case : (Jvm.Cond.and given_1 narrow_1).before args0 about1 = true := by decide +kernel
set_option maxRecDepth 65536 in
theorem w_consts : constsHeld consts_1 about1 := Jvm.Lit.constsHeldB_iff.mp (by decide +kernel)
theorem w_applies : (headSpec (Jvm.Cond.code x code maxLocals ret :: tables_1) room_1).applies x e0.platform about1 = true :=
  (Spec.applies_iff w_frames).mpr ⟨w_running, w_runnable, w_alone, w_named, w_hears, w_ripe, w_room, w_tables⟩
theorem atStart : AtStart classFile x code maxLocals ret World_1 tables_1 room_1 Calls_1 rest_1 Pre_1 launch0 p0 e0 about1 theMethod args0 below0 :=
  ⟨lists_1, trivial, launch0.admits_env _ _ _, launch0.least_env, fairChoices_fair.cas, fairChoices_fair.clock, w_frames, w_args, w_heap, w_applies, ⟨w_consts, trivial⟩, w_rest, w_case⟩
end start1
theorem witness_1 : WitnessClaimed_1 := ⟨start1.p0, start1.e0, start1.about1, start1.theMethod, start1.args0, start1.below0, start1.atStart⟩
end Jvm.Pilot.@@N@@
