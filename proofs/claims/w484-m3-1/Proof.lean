import JvmDerived
import JvmDerived.Pilot.@@N@@Statement
import JvmDerived.Pilot.@@N@@Code
set_option linter.unusedVariables false
set_option linter.unusedSimpArgs false
namespace Jvm.Pilot.@@N@@
open Jvm Jvm.ClassFile Sem Op Lib Jvm.Free Jvm.Stand Jvm.LawKit Jvm.RoadKit Bundle Jvm.Pilot.@@N@@.Jvm.D
/-! own_kit: a walk as 'what is left to do' (Go), contracts (Con), calls and returns in that form -/
/-- from F the run comes to an end of which P holds -/
def Go (tb : Tables) (e : Env) (below : List Frame) (P : Outcome → State → Prop) (F : State) : Prop :=
  ∃ s₂ o, Steps tb e below F s₂ ∧ s₂.status = .running ∧ Ended s₂ below o ∧ P o s₂
theorem Go.step {tb : Tables} {e : Env} {below : List Frame} {P : Outcome → State → Prop} {A B : State} (h : ∀ t, Steps tb e below B t → Steps tb e below A t) (k : Go tb e below P B) : Go tb e below P A := by
  obtain ⟨s₂, o, h1, h2, h3, h4⟩ := k
  exact ⟨s₂, o, h _ h1, h2, h3, h4⟩
theorem Go.via {tb : Tables} {e : Env} {below : List Frame} {P : Outcome → State → Prop} {A B : State} (h : Steps tb e below A B) (k : Go tb e below P B) : Go tb e below P A :=
  Go.step (fun t q => h.trans q) k
/-- how a walk ends: it returns v, Q holds of v, the heap and the places written; at most C cells and S slots were made -/
def EndsAs (s : State) (C S : Nat) (Q : Option Value → Heap → List Loc → Prop) (o : Outcome) (U : State) : Prop :=
  ∃ v L, o = .returned v ∧ Q v U.heap L ∧ FrameEnd s o U L C S
/-- the contract of a body at arguments 'as' and heap h0 -/
abbrev Con (l : Launch) (Z : State) (y : MethodName) (bytes : ByteArray) (mx : Nat) (ret : Option FieldType) (ws : List Jvm.Cond) (rm : Room) (as : Array Value) (h0 : Heap) (Q : Option Value → Heap → List Loc → Prop) : Prop :=
  MetFree l y (head1 (Jvm.Cond.code y bytes mx ret :: ws) rm) (fun a U => a = as ∧ Z.Warmed39 U.vm ∧ U.heap = h0) (fun _ _ _ _ _ => True) (fun _ U o U' => ∃ v L, o = .returned v ∧ Q v U'.heap L ∧ FrameEnd U o U' L rm.cells rm.slots)
theorem Con.of {l : Launch} {Z : State} {y : MethodName} {bytes : ByteArray} {mx : Nat} {ret : Option FieldType} {ws : List Jvm.Cond} {rm : Room} {as : Array Value} {h0 : Heap} {Q : Option Value → Heap → List Loc → Prop} (hpl : plainFor y = true)
    (body : ∀ (p : Program) (e : Env) (s : State) (m : MethodId) (below : List Frame) (meth : Method) (c : Code) (s₁ : State), Z.Warmed39 s.vm → p.tables.exec = Jvm.exec → c.code = bytes → c.maxLocals = mx → s.vm.findClass y.cls = some m.cls → meth.sig.returnType = ret → meth.locks = false → meth.name = y.name →
      Stand p l e rm s m as below meth c s₁ [] 0 0 → s₁.heap = h0 → Go p.tables e below (EndsAs s rm.cells rm.slots Q) (s₁.setTop (entryFrame m as mx))) :
    Con l Z y bytes mx ret ws rm as h0 Q := by
  refine MetFree.of_bodySF hpl hisR ?_
  intro p e s m args below meth c s₁ Bd hml0 hP hK
  obtain ⟨rfl, hZ, hh⟩ := hP
  exact body p e s m below meth c s₁ hZ Bd.exec Bd.bytes hml0 (findClass_of_methodNamed Bd.named) Bd.returns Bd.notSynchronized (name_of_methodNamed Bd.named Bd.method).1 (Stand.of_body Bd) (by rw [← hh, Bd.state]; rfl)
section Kit
variable {p : Program} {l : Launch} {e : Env} {R : Room} {s : State} {m : MethodId} {args : Array Value} {below : List Frame} {meth : Method} {c : Code} {T : State} {locs : List Loc} {cells slots : Nat} {Z : State} {a0 : Array Value} {h : Heap}
theorem leafO (X : Stand p l e R s m args below meth c T locs cells slots) (hx : p.tables.exec = Jvm.exec) {t : FieldType} (hret : meth.sig.returnType = some t) (hlk : meth.locks = false) {pc : Nat} {Ls : Array Slot} {w : Value} {i : Instr} {rest : List Value} (hn : narrow t w = w)
    (hi : (i = .ireturn ∧ (t = .int ∨ t = .boolean ∨ t = .byte ∨ t = .char ∨ t = .short) ∧ ∃ z, w = .int z) ∨ (i = .lreturn ∧ t = .long ∧ ∃ z, w = .long z) ∨ (i = .dreturn ∧ t = .double ∧ ∃ z, w = .double z) ∨ (i = .freturn ∧ t = .float ∧ ∃ z, w = .float z) ∨ (i = .areturn ∧ t.isReference = true ∧ w.isRef = true))
    (hd : decode c.code pc = .ok (i, 1)) {Q : Option Value → Heap → List Loc → Prop} {C S : Nat} (hQ : Q (some w) T.heap locs) (hC : cells ≤ C) (hS : slots ≤ S) :
    Go p.tables e below (EndsAs s C S Q) (T.setTop (mkF m pc Ls (w :: rest))) := by
  obtain ⟨fs, hr, hrun, hended, hW, hsame⟩ := X.leave (v := some w) (fun h => by rw [hret] at h; cases h) hlk
  exact ⟨_, _, retOut X hx hret hn hi hd hr, hrun, hended, _, _, rfl, hQ, ⟨_, rfl⟩, hW, hsame.mono hC hS⟩
theorem leafI (X : Stand p l e R s m args below meth c T locs cells slots) (hx : p.tables.exec = Jvm.exec) (hret : meth.sig.returnType = some .int) (hlk : meth.locks = false) {pc : Nat} {Ls : Array Slot} {z : Int32} {rest : List Value}
    (hd : decode c.code pc = .ok (.ireturn, 1)) {Q : Option Value → Heap → List Loc → Prop} {C S : Nat} (hQ : Q (some (.int z)) T.heap locs) (hC : cells ≤ C) (hS : slots ≤ S) :
    Go p.tables e below (EndsAs s C S Q) (T.setTop (mkF m pc Ls (.int z :: rest))) :=
  leafO X hx hret hlk rfl (Or.inl ⟨rfl, Or.inl rfl, _, rfl⟩) hd hQ hC hS
theorem leafJ (X : Stand p l e R s m args below meth c T locs cells slots) (hx : p.tables.exec = Jvm.exec) (hret : meth.sig.returnType = some .long) (hlk : meth.locks = false) {pc : Nat} {Ls : Array Slot} {z : Int64} {rest : List Value}
    (hd : decode c.code pc = .ok (.lreturn, 1)) {Q : Option Value → Heap → List Loc → Prop} {C S : Nat} (hQ : Q (some (.long z)) T.heap locs) (hC : cells ≤ C) (hS : slots ≤ S) :
    Go p.tables e below (EndsAs s C S Q) (T.setTop (mkF m pc Ls (.long z :: rest))) :=
  leafO X hx hret hlk rfl (Or.inr (Or.inl ⟨rfl, rfl, _, rfl⟩)) hd hQ hC hS
theorem leafA (X : Stand p l e R s m args below meth c T locs cells slots) (hx : p.tables.exec = Jvm.exec) {t : FieldType} (hret : meth.sig.returnType = some t) (ht : t.isReference = true) (hlk : meth.locks = false) {pc : Nat} {Ls : Array Slot} {w : Value} {rest : List Value} (hw : w.isRef = true) (hn : narrow t w = w)
    (hd : decode c.code pc = .ok (.areturn, 1)) {Q : Option Value → Heap → List Loc → Prop} {C S : Nat} (hQ : Q (some w) T.heap locs) (hC : cells ≤ C) (hS : slots ≤ S) :
    Go p.tables e below (EndsAs s C S Q) (T.setTop (mkF m pc Ls (w :: rest))) :=
  leafO X hx hret hlk hn (Or.inr (Or.inr (Or.inr (Or.inr ⟨rfl, ht, hw⟩)))) hd hQ hC hS
theorem leafN (X : Stand p l e R s m args below meth c T locs cells slots) (hx : p.tables.exec = Jvm.exec) {t : FieldType} (hret : meth.sig.returnType = some t) (ht : t = .boolean ∨ t = .byte ∨ t = .char ∨ t = .short) (hlk : meth.locks = false) {pc : Nat} {Ls : Array Slot} {z w : Int32} {rest : List Value} (hw : nar t z = w)
    (hd : decode c.code pc = .ok (.ireturn, 1)) {Q : Option Value → Heap → List Loc → Prop} {C S : Nat} (hQ : Q (some (.int w)) T.heap locs) (hC : cells ≤ C) (hS : slots ≤ S) :
    Go p.tables e below (EndsAs s C S Q) (T.setTop (mkF m pc Ls (.int z :: rest))) := by
  subst hw
  obtain ⟨fs, hr, hrun, hended, hW, hsame⟩ := X.leave (v := some (.int (nar t z))) (fun h => by rw [hret] at h; cases h) hlk
  exact ⟨_, _, retN X hx hret ht hd hr, hrun, hended, _, _, rfl, hQ, ⟨_, rfl⟩, hW, hsame.mono hC hS⟩
theorem leafV (X : Stand p l e R s m args below meth c T locs cells slots) (hx : p.tables.exec = Jvm.exec) (hret : meth.sig.returnType = none) (hlk : meth.locks = false) {pc : Nat} {Ls : Array Slot}
    (hd : decode c.code pc = .ok (.return_, 1)) {Q : Option Value → Heap → List Loc → Prop} {C S : Nat} (hQ : Q none T.heap locs) (hC : cells ≤ C) (hS : slots ≤ S) :
    Go p.tables e below (EndsAs s C S Q) (T.setTop (mkF m pc Ls [])) := by
  obtain ⟨fs, hr, hrun, hended, hW, hsame⟩ := X.leave (v := none) (fun _ => rfl) hlk
  exact ⟨_, _, X.returnOut hx hret hd hr, hrun, hended, _, _, rfl, hQ, ⟨_, rfl⟩, hW, hsame.mono hC hS⟩
theorem goS (X : Stand p l e R s m args below meth c T locs cells slots) (hx : p.tables.exec = Jvm.exec) (hZ : Z.Warmed39 s.vm) {own : String} {index : Nat} {y : MethodName} {bytes : ByteArray} {maxL : Nat} {ret : Option FieldType} (hown : s.vm.findClass own = some m.cls)
    (w1 : (Jvm.Cond.methodLink own index y).before a0 Z = true) (w2 : (Jvm.Cond.static y).before a0 Z = true) (w3 : (Jvm.Cond.initialized y.cls).before a0 Z = true) (w4 : (Jvm.Cond.code y bytes maxL ret).before a0 Z = true)
    (hy : y.cls ≠ "java/lang/invoke/MethodHandle" ∧ y.cls ≠ "java/lang/invoke/VarHandle") {rm : Room} {as : Array Value} {Qc : Option Value → Heap → List Loc → Prop} (hM : Con l Z y bytes maxL ret [] rm as h Qc) (eT : T.heap = h)
    {pc : Nat} {Ls : Array Slot} {st : List Value} (hsize : Ls.size = c.maxLocals) (argsL rest : List Value) (has : argsL.toArray = as) {ps : List FieldType} {r : Option FieldType} (hpd : parseMethodDescriptor y.desc = some ⟨ps, r⟩) (hlen : argsL.length = ps.length) (hst : st = argsL.reverse ++ rest)
    (W : Nat) (hW : (rest.map fun v => v.category).sum = W) (hd : decode c.code pc = .ok (.invokestatic index, 3)) (hf : rm.frames + 1 ≤ R.frames) (hl : W + (maxL + 11) + rm.locals ≤ R.locals) (hc : cells + rm.cells ≤ R.cells) (hs : slots + rm.slots ≤ R.slots) {P : Outcome → State → Prop}
    (k : ∀ (T' : State) (L : List Loc) (v : Option Value), Qc v T'.heap L → Stand p l e R s m args below meth c T' (locs ++ L) (cells + rm.cells) (slots + rm.slots) → Go p.tables e below P (T'.setTop (mkF m (pc + 3) Ls (v.toList ++ rest)))) :
    Go p.tables e below P (T.setTop (mkF m pc Ls st)) := by
  subst hst
  obtain ⟨v, _, ⟨T', L', k', n'⟩, -, X', ⟨L, hQ, q1, q2, q3⟩, st⟩ := Jvm.LawKit.callS X hx (y := y) hown (mvT hZ w1) (mvT hZ w2) (mvT hZ w3) (mvT hZ w4) hy (backOf (W := W) hM hZ w4 w3 hf hl) (g := mkF m pc Ls (argsL.reverse ++ rest)) rfl hsize (argsL := argsL) (rest := rest) (lenOf hpd hlen) rfl (by show 2 * 0 + _ ≤ _; omega) hd (fun _ _ => ⟨has, eT, hc, hs⟩)
  dsimp only [Pt.U, Pt.locs, Pt.cells, Pt.slots] at X' q1 q2 q3 st hQ
  subst q1 q2 q3
  exact Go.step st (k T' L v hQ X')
theorem goI (X : Stand p l e R s m args below meth c T locs cells slots) (hx : p.tables.exec = Jvm.exec) (hZ : Z.Warmed39 s.vm) {own : String} {index : Nat} {y : MethodName} {bytes : ByteArray} {maxL : Nat} (hy1 : y.name = "<init>") (hown : s.vm.findClass own = some m.cls)
    (w1 : (Jvm.Cond.methodLink own index y).before a0 Z = true) (w2 : (Jvm.Cond.instanceMethod y).before a0 Z = true) (w3 : (Jvm.Cond.initialized y.cls).before a0 Z = true) (w4 : (Jvm.Cond.code y bytes maxL none).before a0 Z = true)
    (hy : y.cls ≠ "java/lang/invoke/MethodHandle" ∧ y.cls ≠ "java/lang/invoke/VarHandle") {rm : Room} {as : Array Value} {Qc : Option Value → Heap → List Loc → Prop} (hM : Con l Z y bytes maxL none [] rm as h Qc) (eT : T.heap = h)
    {pc : Nat} {Ls : Array Slot} {st : List Value} (hsize : Ls.size = c.maxLocals) (a : Addr) (argsL rest : List Value) (has : (Value.ref a :: argsL).toArray = as) {ps : List FieldType} {r : Option FieldType} (hpd : parseMethodDescriptor y.desc = some ⟨ps, r⟩) (hlen : argsL.length = ps.length) (hst : st = argsL.reverse ++ .ref a :: rest)
    (W : Nat) (hW : (rest.map fun v => v.category).sum = W) (hd : decode c.code pc = .ok (.invokespecial index, 3)) (hf : rm.frames + 1 ≤ R.frames) (hl : W + (maxL + 11) + rm.locals ≤ R.locals) (hc : cells + rm.cells ≤ R.cells) (hs : slots + rm.slots ≤ R.slots) {P : Outcome → State → Prop}
    (k : ∀ (T' : State) (L : List Loc) (v : Option Value), Qc v T'.heap L → Stand p l e R s m args below meth c T' (locs ++ L) (cells + rm.cells) (slots + rm.slots) → Go p.tables e below P (T'.setTop (mkF m (pc + 3) Ls (v.toList ++ rest)))) :
    Go p.tables e below P (T.setTop (mkF m pc Ls st)) := by
  subst hst
  obtain ⟨v, _, ⟨T', L', k', n'⟩, -, X', ⟨L, hQ, q1, q2, q3⟩, st⟩ := X.specialBack hx (y := y) hy1 hown (mvT hZ w1) (mvT hZ w2) (mvT hZ w4) hy (backOf (W := W) hM hZ w4 w3 hf hl) (g := mkF m pc Ls (argsL.reverse ++ .ref a :: rest)) rfl hsize (Steps.refl _) (a := a) (argsL := argsL) (rest := rest) (lenOf hpd hlen) rfl (by show 2 * 0 + _ ≤ _; omega) hd (fun _ _ => ⟨has, eT, hc, hs⟩)
  dsimp only [Pt.U, Pt.locs, Pt.cells, Pt.slots] at X' q1 q2 q3 st hQ
  subst q1 q2 q3
  exact Go.via st (k T' L v hQ X')
theorem goV (X : Stand p l e R s m args below meth c T locs cells slots) (hx : p.tables.exec = Jvm.exec) (hZ : Z.Warmed39 s.vm) {own C : String} {index : Nat} {y z : MethodName} {bytes : ByteArray} {maxL : Nat} {ret : Option FieldType} (hown : s.vm.findClass own = some m.cls)
    (w1 : (Jvm.Cond.methodLink own index y).before a0 Z = true) (w2 : (Jvm.Cond.declares y).before a0 Z = true) (hnf : NotFace s y) (w5 : (Jvm.Cond.selects C y z).before a0 Z = true) (w6 : (Jvm.Cond.instanceMethod z).before a0 Z = true) (w3 : (Jvm.Cond.initialized z.cls).before a0 Z = true) (w4 : (Jvm.Cond.code z bytes maxL ret).before a0 Z = true)
    (hy : y.cls ≠ "java/lang/invoke/MethodHandle" ∧ y.cls ≠ "java/lang/invoke/VarHandle") {rm : Room} {as : Array Value} {Qc : Option Value → Heap → List Loc → Prop} (hM : Con l Z z bytes maxL ret [] rm as h Qc) (eT : T.heap = h)
    {a : Addr} (E : Exa Z h a C) {pc : Nat} {Ls : Array Slot} {st : List Value} (hsize : Ls.size = c.maxLocals) (argsL rest : List Value) (has : (Value.ref a :: argsL).toArray = as) {ps : List FieldType} {r : Option FieldType} (hpd : parseMethodDescriptor y.desc = some ⟨ps, r⟩) (hlen : argsL.length = ps.length) (hst : st = argsL.reverse ++ .ref a :: rest)
    (W : Nat) (hW : (rest.map fun v => v.category).sum = W) (hd : decode c.code pc = .ok (.invokevirtual index, 3)) (hf : rm.frames + 1 ≤ R.frames) (hl : W + (maxL + 11) + rm.locals ≤ R.locals) (hc : cells + rm.cells ≤ R.cells) (hs : slots + rm.slots ≤ R.slots) {P : Outcome → State → Prop}
    (k : ∀ (T' : State) (L : List Loc) (v : Option Value), Qc v T'.heap L → Stand p l e R s m args below meth c T' (locs ++ L) (cells + rm.cells) (slots + rm.slots) → Go p.tables e below P (T'.setTop (mkF m (pc + 3) Ls (v.toList ++ rest)))) :
    Go p.tables e below P (T.setTop (mkF m pc Ls st)) := by
  subst hst
  obtain ⟨cq, kq, qa, qb, qc⟩ := isOf hZ eT E
  obtain ⟨v, _, ⟨T', L', k', n'⟩, -, X', ⟨L, hQ, q1, q2, q3⟩, st⟩ := X.virtualBack hx (y := y) (z := z) hown (mvT hZ w1) (mvT hZ w2) hnf (mvT hZ w5) (mvT hZ w6) hy (backOf (W := W) hM hZ w4 w3 hf hl) qa qc (g := mkF m pc Ls (argsL.reverse ++ .ref a :: rest)) rfl hsize (Steps.refl _) (argsL := argsL) (rest := rest) (lenOf hpd hlen) rfl (by show 2 * 0 + _ ≤ _; omega) hd (fun _ _ => ⟨has, eT, hc, hs⟩)
  dsimp only [Pt.U, Pt.locs, Pt.cells, Pt.slots] at X' q1 q2 q3 st hQ
  subst q1 q2 q3
  exact Go.via st (k T' L v hQ X')
end Kit
/-! own_kit, wide: String constants may be loaded -/
def EndsW (s : State) (C S : Nat) (Q : Option Value → Heap → List Loc → Prop) (o : Outcome) (U : State) : Prop :=
  ∃ v L, o = .returned v ∧ Q v U.heap L ∧ ReturnedEndW s o U L C S
abbrev ConW (l : Launch) (Z : State) (y : MethodName) (bytes : ByteArray) (mx : Nat) (ret : Option FieldType) (ws : List Jvm.Cond) (rm : Room) (as : Array Value) (h0 : Heap) (Q : Option Value → Heap → List Loc → Prop) : Prop :=
  MetFree l y (head1 (Jvm.Cond.code y bytes mx ret :: ws) rm) (fun a U => a = as ∧ Z.Warmed39 U.vm ∧ U.heap = h0) (fun _ _ _ _ _ => True) (fun _ U o U' => ∃ v L, o = .returned v ∧ Q v U'.heap L ∧ ReturnedEndW U o U' L rm.cells rm.slots)
theorem ConW.of {l : Launch} {Z : State} {y : MethodName} {bytes : ByteArray} {mx : Nat} {ret : Option FieldType} {ws : List Jvm.Cond} {rm : Room} {as : Array Value} {h0 : Heap} {Q : Option Value → Heap → List Loc → Prop} (hpl : plainFor y = true)
    (body : ∀ (p : Program) (e : Env) (s : State) (m : MethodId) (below : List Frame) (meth : Method) (c : Code) (s₁ : State), Z.Warmed39 s.vm → p.tables.exec = Jvm.exec → c.code = bytes → c.maxLocals = mx → s.vm.findClass y.cls = some m.cls → meth.sig.returnType = ret → meth.locks = false → meth.name = y.name →
      Stand p l e rm (s.setVm s.vm) m as below meth c s₁ [] 0 0 → s₁.heap = h0 → s.heap = h0 → s.Since s.vm h0.size → Go p.tables e below (EndsW s rm.cells rm.slots Q) (s₁.setTop (entryFrame m as mx))) :
    ConW l Z y bytes mx ret ws rm as h0 Q := by
  refine MetFree.of_bodySF hpl hisR ?_
  intro p e s m args below meth c s₁ Bd hml0 hP hK
  obtain ⟨rfl, hZ, hh⟩ := hP
  exact body p e s m below meth c s₁ hZ Bd.exec Bd.bytes hml0 (findClass_of_methodNamed Bd.named) Bd.returns Bd.notSynchronized (name_of_methodNamed Bd.named Bd.method).1 (Stand.of_body Bd) (by rw [← hh, Bd.state]; rfl) hh ((State.WarmedH.refl s).since _)
section KitW
variable {p : Program} {l : Launch} {e : Env} {R : Room} {s : State} {vm0 : Vm} {m : MethodId} {args : Array Value} {below : List Frame} {meth : Method} {c : Code} {T : State} {locs : List Loc} {cells slots : Nat} {Z : State} {a0 : Array Value} {h : Heap} {k0 : Nat}
theorem leafOW (X : Stand p l e R (s.setVm vm0) m args below meth c T locs cells slots) (hS : s.Since vm0 k0) (hk : k0 ≤ T.heap.size) (hx : p.tables.exec = Jvm.exec) {t : FieldType} (hret : meth.sig.returnType = some t) (hlk : meth.locks = false) {pc : Nat} {Ls : Array Slot} {w : Value} {i : Instr} {rest : List Value} (hn : narrow t w = w)
    (hi : (i = .ireturn ∧ (t = .int ∨ t = .boolean ∨ t = .byte ∨ t = .char ∨ t = .short) ∧ ∃ z, w = .int z) ∨ (i = .lreturn ∧ t = .long ∧ ∃ z, w = .long z) ∨ (i = .dreturn ∧ t = .double ∧ ∃ z, w = .double z) ∨ (i = .freturn ∧ t = .float ∧ ∃ z, w = .float z) ∨ (i = .areturn ∧ t.isReference = true ∧ w.isRef = true))
    (hd : decode c.code pc = .ok (i, 1)) {Q : Option Value → Heap → List Loc → Prop} {C S : Nat} (hQ : Q (some w) T.heap locs) (hC : cells ≤ C) (hSl : slots ≤ S) :
    Go p.tables e below (EndsW s C S Q) (T.setTop (mkF m pc Ls (w :: rest))) := by
  obtain ⟨fs, hr, hrun, hended, hE⟩ := X.leaveW hS hk (v := some w) (fun h => by rw [hret] at h; cases h) hlk
  exact ⟨_, _, retOut X hx hret hn hi hd hr, hrun, hended, _, _, rfl, hQ, hE.1, hE.2.1, hE.2.2.1, hE.2.2.2.mono hC hSl⟩
theorem leafAW (X : Stand p l e R (s.setVm vm0) m args below meth c T locs cells slots) (hS : s.Since vm0 k0) (hk : k0 ≤ T.heap.size) (hx : p.tables.exec = Jvm.exec) {t : FieldType} (hret : meth.sig.returnType = some t) (ht : t.isReference = true) (hlk : meth.locks = false) {pc : Nat} {Ls : Array Slot} {w : Value} {rest : List Value} (hw : w.isRef = true) (hn : narrow t w = w)
    (hd : decode c.code pc = .ok (.areturn, 1)) {Q : Option Value → Heap → List Loc → Prop} {C S : Nat} (hQ : Q (some w) T.heap locs) (hC : cells ≤ C) (hSl : slots ≤ S) :
    Go p.tables e below (EndsW s C S Q) (T.setTop (mkF m pc Ls (w :: rest))) :=
  leafOW X hS hk hx hret hlk hn (Or.inr (Or.inr (Or.inr (Or.inr ⟨rfl, ht, hw⟩)))) hd hQ hC hSl
theorem leafNW (X : Stand p l e R (s.setVm vm0) m args below meth c T locs cells slots) (hS : s.Since vm0 k0) (hk : k0 ≤ T.heap.size) (hx : p.tables.exec = Jvm.exec) {t : FieldType} (hret : meth.sig.returnType = some t) (ht : t = .boolean ∨ t = .byte ∨ t = .char ∨ t = .short) (hlk : meth.locks = false) {pc : Nat} {Ls : Array Slot} {z w : Int32} {rest : List Value} (hw : nar t z = w)
    (hd : decode c.code pc = .ok (.ireturn, 1)) {Q : Option Value → Heap → List Loc → Prop} {C S : Nat} (hQ : Q (some (.int w)) T.heap locs) (hC : cells ≤ C) (hSl : slots ≤ S) :
    Go p.tables e below (EndsW s C S Q) (T.setTop (mkF m pc Ls (.int z :: rest))) := by
  subst hw
  obtain ⟨fs, hr, hrun, hended, hE⟩ := X.leaveW hS hk (v := some (.int (nar t z))) (fun h => by rw [hret] at h; cases h) hlk
  exact ⟨_, _, retN X hx hret ht hd hr, hrun, hended, _, _, rfl, hQ, hE.1, hE.2.1, hE.2.2.1, hE.2.2.2.mono hC hSl⟩
theorem goSW (X : Stand p l e R (s.setVm vm0) m args below meth c T locs cells slots) (hS : s.Since vm0 k0) (hk : k0 ≤ T.heap.size) (hx : p.tables.exec = Jvm.exec) (hZ : Z.Warmed39 vm0) {own : String} {index : Nat} {y : MethodName} {bytes : ByteArray} {maxL : Nat} {ret : Option FieldType} (hown : vm0.findClass own = some m.cls)
    (w1 : (Jvm.Cond.methodLink own index y).before a0 Z = true) (w2 : (Jvm.Cond.static y).before a0 Z = true) (w3 : (Jvm.Cond.initialized y.cls).before a0 Z = true) (w4 : (Jvm.Cond.code y bytes maxL ret).before a0 Z = true)
    (hy : y.cls ≠ "java/lang/invoke/MethodHandle" ∧ y.cls ≠ "java/lang/invoke/VarHandle") {rm : Room} {as : Array Value} {Qc : Option Value → Heap → List Loc → Prop} (hM : ConW l Z y bytes maxL ret [] rm as h Qc) (eT : T.heap = h)
    {pc : Nat} {Ls : Array Slot} {st : List Value} (hsize : Ls.size = c.maxLocals) (argsL rest : List Value) (has : argsL.toArray = as) {ps : List FieldType} {r : Option FieldType} (hpd : parseMethodDescriptor y.desc = some ⟨ps, r⟩) (hlen : argsL.length = ps.length) (hst : st = argsL.reverse ++ rest)
    (W : Nat) (hW : (rest.map fun v => v.category).sum = W) (hd : decode c.code pc = .ok (.invokestatic index, 3)) (hf : rm.frames + 1 ≤ R.frames) (hl : W + (maxL + 11) + rm.locals ≤ R.locals) (hc : cells + rm.cells ≤ R.cells) (hs : slots + rm.slots ≤ R.slots) {P : Outcome → State → Prop}
    (k : ∀ (T' : State) (L : List Loc) (v : Option Value), Qc v T'.heap L → Stand p l e R (s.setVm T'.vm) m args below meth c T' (locs ++ L) (cells + rm.cells) (slots + rm.slots) → s.Since T'.vm T'.heap.size → T.heap.size ≤ T'.heap.size → Z.Warmed39 T'.vm → T'.vm.findClass own = some m.cls → Go p.tables e below P (T'.setTop (mkF m (pc + 3) Ls (v.toList ++ rest)))) :
    Go p.tables e below P (T.setTop (mkF m pc Ls st)) := by
  subst hst
  have hZ' : Z.Warmed39 (s.setVm vm0).vm := hZ
  obtain ⟨v, _, ⟨T', L', k', n'⟩, -, X', hS', hg', ⟨L, hQ, q1, q2, q3⟩, st⟩ := callSS X hx (y := y) hown (mvT hZ' w1) (mvT hZ' w2) (mvT hZ' w3) (mvT hZ' w4) hy (backOfS (W := W) hM hZ' w4 w3 hf hl) (g := mkF m pc Ls (argsL.reverse ++ rest)) rfl hsize (argsL := argsL) (rest := rest) (lenOf hpd hlen) rfl (by show 2 * 0 + _ ≤ _; omega) hd (fun _ _ => ⟨has, eT, hc, hs⟩)
  dsimp only [Pt.U, Pt.locs, Pt.cells, Pt.slots] at X' q1 q2 q3 st hQ hS' hg'
  subst q1 q2 q3
  exact Go.via st (k T' L v hQ X' (hS.trans hS' (Nat.le_trans hk hg')) hg' (State.Warmed39.trans (t := s.setVm vm0) hZ hS'.1) (by rw [hS'.1.alike.findClass]; exact hown))
end KitW

/-! plain facts -/
def own_one (f : Int32) : Int32 := if f &&& 2 = 0 then 0 else 1
theorem own_bits (f : Int32) : (((f.toUInt32 >>> ((1 : Int32) &&& 31).toUInt32).toInt32) &&& (1 : Int32)) = (1 : Int32) ↔ ¬ f &&& 2 = 0 := by
  have h1 : (f &&& 2).toBitVec = if f.toBitVec.getLsbD 1 then BitVec.twoPow 32 1 else 0#32 := by
    rw [Int32.toBitVec_and, ← BitVec.and_twoPow]; rfl
  have h2 : (((f.toUInt32 >>> ((1 : Int32) &&& 31).toUInt32).toInt32) &&& (1 : Int32)).toBitVec = if f.toBitVec.getLsbD 1 then BitVec.twoPow 32 0 else 0#32 := by
    rw [Int32.toBitVec_and]
    show (f.toBitVec >>> 1) &&& BitVec.twoPow 32 0 = _
    rw [BitVec.and_twoPow]; simp [BitVec.getLsbD_ushiftRight]
  rw [← Int32.toBitVec_inj, ← Int32.toBitVec_inj, h1, h2]
  cases f.toBitVec.getLsbD 1 <;> decide

theorem d2_0 : decode jdk_30_method_1_code 0 = .ok (.aload_n 0, 1) := by decide +kernel
theorem d2_1 : decode jdk_30_method_1_code 1 = .ok (.invokespecial 1, 3) := by decide +kernel
theorem d2_4 : decode jdk_30_method_1_code 4 = .ok (.return_, 1) := by decide +kernel
theorem pn2 : plainFor (⟨"java/lang/Record", "<init>", "()V"⟩ : MethodName) = true := plainFor_of_name (by first | (simp [plainName, overriddenIn]; done) | decide +kernel)
theorem pd2 : parseMethodDescriptor "()V" = some ⟨[], none⟩ := by decide +kernel
theorem ef2 (m : MethodId) (x0 : Addr) : entryFrame m #[(.ref x0)] 1 = mkF m 0 #[.val (.ref x0)] [] := by first | (simp [entryFrame, mkF, argsToLocals, Value.category]; done) | rfl
theorem d4_0 : decode prog_30_method_9_code 0 = .ok (.aload_n 0, 1) := by decide +kernel
theorem d4_1 : decode prog_30_method_9_code 1 = .ok (.getfield 23, 3) := by decide +kernel
theorem d4_4 : decode prog_30_method_9_code 4 = .ok (.iconst 2, 1) := by decide +kernel
theorem d4_5 : decode prog_30_method_9_code 5 = .ok (.iand, 1) := by decide +kernel
theorem d4_6 : decode prog_30_method_9_code 6 = .ok (.ifCond .eq 7, 3) := by decide +kernel
theorem d4_9 : decode prog_30_method_9_code 9 = .ok (.iconst 1, 1) := by decide +kernel
theorem d4_10 : decode prog_30_method_9_code 10 = .ok (.goto 4, 3) := by decide +kernel
theorem d4_13 : decode prog_30_method_9_code 13 = .ok (.iconst 0, 1) := by decide +kernel
theorem d4_14 : decode prog_30_method_9_code 14 = .ok (.ireturn, 1) := by decide +kernel
theorem pn4 : plainFor (⟨"com/example/topiq/topiq/remoting/RemotingCommand", "isOneway", "()Z"⟩ : MethodName) = true := plainFor_of_name (by first | (simp [plainName, overriddenIn]; done) | decide +kernel)
theorem pd4 : parseMethodDescriptor "()Z" = some ⟨[], some .boolean⟩ := by decide +kernel
theorem ef4 (m : MethodId) (x0 : Addr) : entryFrame m #[(.ref x0)] 1 = mkF m 0 #[.val (.ref x0)] [] := by first | (simp [entryFrame, mkF, argsToLocals, Value.category]; done) | rfl
theorem d1_0 : decode prog_30_method_1_code 0 = .ok (.aload_n 0, 1) := by decide +kernel
theorem d1_1 : decode prog_30_method_1_code 1 = .ok (.invokespecial 1, 3) := by decide +kernel
theorem d1_4 : decode prog_30_method_1_code 4 = .ok (.aload_n 0, 1) := by decide +kernel
theorem d1_5 : decode prog_30_method_1_code 5 = .ok (.iload_n 1, 1) := by decide +kernel
theorem d1_6 : decode prog_30_method_1_code 6 = .ok (.putfield 7, 3) := by decide +kernel
theorem d1_9 : decode prog_30_method_1_code 9 = .ok (.aload_n 0, 1) := by decide +kernel
theorem d1_10 : decode prog_30_method_1_code 10 = .ok (.aload_n 2, 1) := by decide +kernel
theorem d1_11 : decode prog_30_method_1_code 11 = .ok (.putfield 13, 3) := by decide +kernel
theorem d1_14 : decode prog_30_method_1_code 14 = .ok (.aload_n 0, 1) := by decide +kernel
theorem d1_15 : decode prog_30_method_1_code 15 = .ok (.iload_n 3, 1) := by decide +kernel
theorem d1_16 : decode prog_30_method_1_code 16 = .ok (.putfield 17, 3) := by decide +kernel
theorem d1_19 : decode prog_30_method_1_code 19 = .ok (.aload_n 0, 1) := by decide +kernel
theorem d1_20 : decode prog_30_method_1_code 20 = .ok (.iload 4, 2) := by decide +kernel
theorem d1_22 : decode prog_30_method_1_code 22 = .ok (.putfield 20, 3) := by decide +kernel
theorem d1_25 : decode prog_30_method_1_code 25 = .ok (.aload_n 0, 1) := by decide +kernel
theorem d1_26 : decode prog_30_method_1_code 26 = .ok (.iload 5, 2) := by decide +kernel
theorem d1_28 : decode prog_30_method_1_code 28 = .ok (.putfield 23, 3) := by decide +kernel
theorem d1_31 : decode prog_30_method_1_code 31 = .ok (.aload_n 0, 1) := by decide +kernel
theorem d1_32 : decode prog_30_method_1_code 32 = .ok (.aload 6, 2) := by decide +kernel
theorem d1_34 : decode prog_30_method_1_code 34 = .ok (.putfield 26, 3) := by decide +kernel
theorem d1_37 : decode prog_30_method_1_code 37 = .ok (.aload_n 0, 1) := by decide +kernel
theorem d1_38 : decode prog_30_method_1_code 38 = .ok (.aload 7, 2) := by decide +kernel
theorem d1_40 : decode prog_30_method_1_code 40 = .ok (.putfield 29, 3) := by decide +kernel
theorem d1_43 : decode prog_30_method_1_code 43 = .ok (.aload_n 0, 1) := by decide +kernel
theorem d1_44 : decode prog_30_method_1_code 44 = .ok (.aload 8, 2) := by decide +kernel
theorem d1_46 : decode prog_30_method_1_code 46 = .ok (.putfield 33, 3) := by decide +kernel
theorem d1_49 : decode prog_30_method_1_code 49 = .ok (.return_, 1) := by decide +kernel
theorem pn1 : plainFor (⟨"com/example/topiq/topiq/remoting/RemotingCommand", "<init>", "(ILjava/lang/String;IIILjava/lang/String;Ljava/util/Map;[B)V"⟩ : MethodName) = true := plainFor_of_name (by first | (simp [plainName, overriddenIn]; done) | decide +kernel)
theorem pd1 : parseMethodDescriptor "(ILjava/lang/String;IIILjava/lang/String;Ljava/util/Map;[B)V" = some ⟨[.int, (.object "java/lang/String"), .int, .int, .int, (.object "java/lang/String"), (.object "java/util/Map"), (.array .byte)], none⟩ := by decide +kernel
theorem d5_0 : decode prog_30_method_3_code 0 = .ok (.new 8, 3) := by decide +kernel
theorem d5_3 : decode prog_30_method_3_code 3 = .ok (.dup, 1) := by decide +kernel
theorem d5_4 : decode prog_30_method_3_code 4 = .ok (.iload_n 0, 1) := by decide +kernel
theorem d5_5 : decode prog_30_method_3_code 5 = .ok (.ldc 37, 2) := by decide +kernel
theorem d5_7 : decode prog_30_method_3_code 7 = .ok (.sipush 407, 3) := by decide +kernel
theorem d5_10 : decode prog_30_method_3_code 10 = .ok (.iconst 0, 1) := by decide +kernel
theorem d5_11 : decode prog_30_method_3_code 11 = .ok (.iconst 2, 1) := by decide +kernel
theorem d5_12 : decode prog_30_method_3_code 12 = .ok (.aconst_null, 1) := by decide +kernel
theorem d5_13 : decode prog_30_method_3_code 13 = .ok (.aload_n 1, 1) := by decide +kernel
theorem d5_14 : decode prog_30_method_3_code 14 = .ok (.aconst_null, 1) := by decide +kernel
theorem d5_15 : decode prog_30_method_3_code 15 = .ok (.invokespecial 39, 3) := by decide +kernel
theorem d5_18 : decode prog_30_method_3_code 18 = .ok (.areturn, 1) := by decide +kernel
theorem pn5 : plainFor (⟨"com/example/topiq/topiq/remoting/RemotingCommand", "oneway", "(ILjava/util/Map;)Lcom/example/topiq/topiq/remoting/RemotingCommand;"⟩ : MethodName) = true := plainFor_of_name (by first | (simp [plainName, overriddenIn]; done) | decide +kernel)
theorem pd5 : parseMethodDescriptor "(ILjava/util/Map;)Lcom/example/topiq/topiq/remoting/RemotingCommand;" = some ⟨[.int, (.object "java/util/Map")], some (.object "com/example/topiq/topiq/remoting/RemotingCommand")⟩ := by decide +kernel
theorem d6_0 : decode prog_30_method_2_code 0 = .ok (.new 8, 3) := by decide +kernel
theorem d6_3 : decode prog_30_method_2_code 3 = .ok (.dup, 1) := by decide +kernel
theorem d6_4 : decode prog_30_method_2_code 4 = .ok (.iload_n 0, 1) := by decide +kernel
theorem d6_5 : decode prog_30_method_2_code 5 = .ok (.ldc 37, 2) := by decide +kernel
theorem d6_7 : decode prog_30_method_2_code 7 = .ok (.sipush 407, 3) := by decide +kernel
theorem d6_10 : decode prog_30_method_2_code 10 = .ok (.iconst 0, 1) := by decide +kernel
theorem d6_11 : decode prog_30_method_2_code 11 = .ok (.iconst 0, 1) := by decide +kernel
theorem d6_12 : decode prog_30_method_2_code 12 = .ok (.aconst_null, 1) := by decide +kernel
theorem d6_13 : decode prog_30_method_2_code 13 = .ok (.aload_n 1, 1) := by decide +kernel
theorem d6_14 : decode prog_30_method_2_code 14 = .ok (.aload_n 2, 1) := by decide +kernel
theorem d6_15 : decode prog_30_method_2_code 15 = .ok (.invokespecial 39, 3) := by decide +kernel
theorem d6_18 : decode prog_30_method_2_code 18 = .ok (.areturn, 1) := by decide +kernel
theorem pn6 : plainFor (⟨"com/example/topiq/topiq/remoting/RemotingCommand", "request", "(ILjava/util/Map;[B)Lcom/example/topiq/topiq/remoting/RemotingCommand;"⟩ : MethodName) = true := plainFor_of_name (by first | (simp [plainName, overriddenIn]; done) | decide +kernel)
theorem pd6 : parseMethodDescriptor "(ILjava/util/Map;[B)Lcom/example/topiq/topiq/remoting/RemotingCommand;" = some ⟨[.int, (.object "java/util/Map"), (.array .byte)], some (.object "com/example/topiq/topiq/remoting/RemotingCommand")⟩ := by decide +kernel
theorem d7_0 : decode prog_30_method_4_code 0 = .ok (.new 8, 3) := by decide +kernel
theorem d7_3 : decode prog_30_method_4_code 3 = .ok (.dup, 1) := by decide +kernel
theorem d7_4 : decode prog_30_method_4_code 4 = .ok (.iload_n 0, 1) := by decide +kernel
theorem d7_5 : decode prog_30_method_4_code 5 = .ok (.ldc 37, 2) := by decide +kernel
theorem d7_7 : decode prog_30_method_4_code 7 = .ok (.sipush 407, 3) := by decide +kernel
theorem d7_10 : decode prog_30_method_4_code 10 = .ok (.iconst 0, 1) := by decide +kernel
theorem d7_11 : decode prog_30_method_4_code 11 = .ok (.iconst 1, 1) := by decide +kernel
theorem d7_12 : decode prog_30_method_4_code 12 = .ok (.aload_n 1, 1) := by decide +kernel
theorem d7_13 : decode prog_30_method_4_code 13 = .ok (.aload_n 2, 1) := by decide +kernel
theorem d7_14 : decode prog_30_method_4_code 14 = .ok (.aload_n 3, 1) := by decide +kernel
theorem d7_15 : decode prog_30_method_4_code 15 = .ok (.invokespecial 39, 3) := by decide +kernel
theorem d7_18 : decode prog_30_method_4_code 18 = .ok (.areturn, 1) := by decide +kernel
theorem pn7 : plainFor (⟨"com/example/topiq/topiq/remoting/RemotingCommand", "response", "(ILjava/lang/String;Ljava/util/Map;[B)Lcom/example/topiq/topiq/remoting/RemotingCommand;"⟩ : MethodName) = true := plainFor_of_name (by first | (simp [plainName, overriddenIn]; done) | decide +kernel)
theorem pd7 : parseMethodDescriptor "(ILjava/lang/String;Ljava/util/Map;[B)Lcom/example/topiq/topiq/remoting/RemotingCommand;" = some ⟨[.int, (.object "java/lang/String"), (.object "java/util/Map"), (.array .byte)], some (.object "com/example/topiq/topiq/remoting/RemotingCommand")⟩ := by decide +kernel
set_option maxRecDepth 65536 in
set_option maxHeartbeats 40000000 in
theorem rm2 (l : Launch) (Z : State) (a0 : Array Value) (hw : ∀ d ∈ tables_1, d.before a0 Z = true) (ws : List Jvm.Cond) (x0 : Addr) (h0 : Heap) : Con l Z (⟨"java/lang/Record", "<init>", "()V"⟩ : MethodName) jdk_30_method_1_code 1 none ws ({ frames := 1, cells := 0, slots := 0, locals := 12 } : Room) #[(.ref x0)] h0 (fun v h L => v = none ∧ h = h0 ∧ L = []) := by
  refine Con.of pn2 fun p e s m below meth c s₁ hZ hx hby hml hown hret hlk hnm X0 e0 => ?_
  rw [ef2]
  show Go _ _ _ _ (s₁.setTop (mkF m 0 #[.val (.ref x0)] []))
  refine Go.step (fun _ k => XS.aloadN X0.here hx rfl (hb hby d2_0) rfl rfl k) ?_
  show Go _ _ _ _ (s₁.setTop (mkF m 1 #[.val (.ref x0)] [(.ref x0)]))
  obtain ⟨T1, X1, e1, st1⟩ := initO X0 hx hZ hown (hw _ (List.mem_of_getElem? (i := 11) rfl)) (hw _ (List.mem_of_getElem? (i := 12) rfl)) (hw _ (List.mem_of_getElem? (i := 13) rfl)) e0 (g := (mkF m 1 #[.val (.ref x0)] [(.ref x0)])) rfl (by rw [hml]; rfl) rfl (hb hby d2_1) (by decide) (W := 0) (by show 2 * 0 + _ ≤ _; exact Nat.le_of_eq rfl) (by decide)
  refine Go.step st1 ?_
  show Go _ _ _ _ (T1.setTop (mkF m 4 #[.val (.ref x0)] []))
  exact leafV X1 hx hret hlk (hb hby d2_4) ⟨rfl, e1, rfl⟩ (by decide) (by decide)
set_option maxRecDepth 65536 in
set_option maxHeartbeats 40000000 in
theorem rm4 (l : Launch) (Z : State) (a0 : Array Value) (hw : ∀ d ∈ tables_1, d.before a0 Z = true) (ws : List Jvm.Cond) (x0 : Addr) (h0 : Heap) (u : Int32) (F0 : Fld Z h0 x0 "com/example/topiq/topiq/remoting/RemotingCommand" "flag" "I" (.int u)) : Con l Z (⟨"com/example/topiq/topiq/remoting/RemotingCommand", "isOneway", "()Z"⟩ : MethodName) prog_30_method_9_code 1 (some .boolean) ws ({ frames := 0, cells := 0, slots := 0, locals := 0 } : Room) #[(.ref x0)] h0 (fun v h L => v = some (.int (own_one u)) ∧ h = h0 ∧ L = []) := by
  refine Con.of pn4 fun p e s m below meth c s₁ hZ hx hby hml hown hret hlk hnm X0 e0 => ?_
  rw [ef4]
  show Go _ _ _ _ (s₁.setTop (mkF m 0 #[.val (.ref x0)] []))
  refine Go.step (fun _ k => XS.aloadN X0.here hx rfl (hb hby d4_0) rfl rfl k) ?_
  show Go _ _ _ _ (s₁.setTop (mkF m 1 #[.val (.ref x0)] [(.ref x0)]))
  obtain ⟨T1, X1, e1, st1⟩ := getF X0 hx hZ hown (host := "") (Or.inl (hw _ (List.mem_of_getElem? (i := 22) rfl))) Via.refl e0 F0 (g := (mkF m 1 #[.val (.ref x0)] [(.ref x0)])) rfl rfl (hb hby d4_1)
  refine Go.step st1 ?_
  show Go _ _ _ _ (T1.setTop (mkF m 4 #[.val (.ref x0)] [(.int u)]))
  refine Go.step (fun _ k => XS.iconst X1.here hx rfl (hb hby d4_4) k) ?_
  show Go _ _ _ _ (T1.setTop (mkF m 5 #[.val (.ref x0)] [(.int (2 : Int32)), (.int u)]))
  refine Go.step (fun _ k => XS.iand X1.here hx rfl (hb hby d4_5) rfl k) ?_
  show Go _ _ _ _ (T1.setTop (mkF m 6 #[.val (.ref x0)] [(.int (u &&& (2 : Int32)))]))
  by_cases hc2 : (u &&& (2 : Int32)) = (0 : Int32)
  · refine Go.step (fun _ k => XS.ifYes X1.here hx rfl (pc0 := 6) (pc' := 13) rfl (hb hby d4_6) rfl ((if0 _ _).trans (teq hc2).1) (by decide) (by decide) k) ?_
    show Go _ _ _ _ (T1.setTop (mkF m 13 #[.val (.ref x0)] []))
    refine Go.step (fun _ k => XS.iconst X1.here hx rfl (hb hby d4_13) k) ?_
    show Go _ _ _ _ (T1.setTop (mkF m 14 #[.val (.ref x0)] [(.int (0 : Int32))]))
    exact leafN X1 hx (t := .boolean) hret (by simp) hlk (w := (0 : Int32)) rfl (hb hby d4_14) ⟨by rw [own_one, if_pos hc2], e1, rfl⟩ (by decide) (by decide)
  · refine Go.step (fun _ k => XS.ifNo X1.here hx rfl (hb hby d4_6) rfl ((if0 _ _).trans (feq hc2).1) k) ?_
    show Go _ _ _ _ (T1.setTop (mkF m 9 #[.val (.ref x0)] []))
    refine Go.step (fun _ k => XS.iconst X1.here hx rfl (hb hby d4_9) k) ?_
    show Go _ _ _ _ (T1.setTop (mkF m 10 #[.val (.ref x0)] [(.int (1 : Int32))]))
    refine Go.step (fun _ k => XS.goto X1.here hx rfl (pc0 := 10) (pc' := 14) rfl (hb hby d4_10) (by decide) (by decide) k) ?_
    show Go _ _ _ _ (T1.setTop (mkF m 14 #[.val (.ref x0)] [(.int (1 : Int32))]))
    exact leafN X1 hx (t := .boolean) hret (by simp) hlk (w := (1 : Int32)) rfl (hb hby d4_14) ⟨by rw [own_one, if_neg hc2], e1, rfl⟩ (by decide) (by decide)
theorem efn (m : MethodId) (x0 : Addr) (x1 : Int32) (x3 : Int32) (x4 : Int32) (x5 : Int32) : entryFrame m #[(.ref x0), (.int x1), .null, (.int x3), (.int x4), (.int x5), .null, .null, .null] 9 = mkF m 0 #[.val (.ref x0), .val (.int x1), .val .null, .val (.int x3), .val (.int x4), .val (.int x5), .val .null, .val .null, .val .null] [] := by first | (simp [entryFrame, mkF, argsToLocals, Value.category]; done) | rfl
set_option maxRecDepth 65536 in
set_option maxHeartbeats 40000000 in
theorem rcn (l : Launch) (Z : State) (a0 : Array Value) (hw : ∀ d ∈ tables_1, d.before a0 Z = true) (ws : List Jvm.Cond) (x0 : Addr) (x1 : Int32) (x3 : Int32) (x4 : Int32) (x5 : Int32) (h0 : Heap) (n0 : Nat) (g0 : n0 ≤ x0) (E0 : Exa Z h0 x0 "com/example/topiq/topiq/remoting/RemotingCommand") (F_code : Fld Z h0 x0 "com/example/topiq/topiq/remoting/RemotingCommand" "code" "I" (.int (0 : Int32))) (F_language : Fld Z h0 x0 "com/example/topiq/topiq/remoting/RemotingCommand" "language" "Ljava/lang/String;" .null) (F_version : Fld Z h0 x0 "com/example/topiq/topiq/remoting/RemotingCommand" "version" "I" (.int (0 : Int32))) (F_opaque : Fld Z h0 x0 "com/example/topiq/topiq/remoting/RemotingCommand" "opaque" "I" (.int (0 : Int32))) (F_flag : Fld Z h0 x0 "com/example/topiq/topiq/remoting/RemotingCommand" "flag" "I" (.int (0 : Int32))) (F_remark : Fld Z h0 x0 "com/example/topiq/topiq/remoting/RemotingCommand" "remark" "Ljava/lang/String;" .null) (F_extFields : Fld Z h0 x0 "com/example/topiq/topiq/remoting/RemotingCommand" "extFields" "Ljava/util/Map;" .null) (F_body : Fld Z h0 x0 "com/example/topiq/topiq/remoting/RemotingCommand" "body" "[B" .null) : Con l Z (⟨"com/example/topiq/topiq/remoting/RemotingCommand", "<init>", "(ILjava/lang/String;IIILjava/lang/String;Ljava/util/Map;[B)V"⟩ : MethodName) prog_30_method_1_code 9 none ws ({ frames := 2, cells := 0, slots := 0, locals := 24 } : Room) #[(.ref x0), (.int x1), .null, (.int x3), (.int x4), (.int x5), .null, .null, .null] h0 (fun v h L => v = none ∧ Fr n0 L ∧ h0.size ≤ h.size ∧ Exa Z h x0 "com/example/topiq/topiq/remoting/RemotingCommand" ∧ Fld Z h x0 "com/example/topiq/topiq/remoting/RemotingCommand" "flag" "I" (.int x5)) := by
  refine Con.of pn1 fun p e s m below meth c s₁ hZ hx hby hml hown hret hlk hnm X0 e0 => ?_
  rw [efn]
  show Go _ _ _ _ (s₁.setTop (mkF m 0 #[.val (.ref x0), .val (.int x1), .val .null, .val (.int x3), .val (.int x4), .val (.int x5), .val .null, .val .null, .val .null] []))
  refine Go.step (fun _ k => XS.aloadN X0.here hx rfl (hb hby d1_0) rfl rfl k) ?_
  show Go _ _ _ _ (s₁.setTop (mkF m 1 #[.val (.ref x0), .val (.int x1), .val .null, .val (.int x3), .val (.int x4), .val (.int x5), .val .null, .val .null, .val .null] [(.ref x0)]))
  refine goI X0 hx hZ rfl hown (hw _ (List.mem_of_getElem? (i := 6) rfl)) (hw _ (List.mem_of_getElem? (i := 7) rfl)) (hw _ (List.mem_of_getElem? (i := 9) rfl)) (hw _ (List.mem_of_getElem? (i := 10) rfl)) (by decide) (rm2 l Z a0 hw [] x0 h0) e0 (by rw [hml]; rfl) x0 [] [] rfl pd2 rfl rfl 0 rfl (hb hby d1_1) (by decide) (by decide) (by decide) (by decide) fun T1 L1 v1 q1 X1 => ?_
  obtain ⟨rfl, e1, rfl⟩ := q1
  rw [List.append_nil] at X1
  show Go _ _ _ _ (T1.setTop (mkF m 4 #[.val (.ref x0), .val (.int x1), .val .null, .val (.int x3), .val (.int x4), .val (.int x5), .val .null, .val .null, .val .null] []))
  refine Go.step (fun _ k => XS.aloadN X1.here hx rfl (hb hby d1_4) rfl rfl k) ?_
  show Go _ _ _ _ (T1.setTop (mkF m 5 #[.val (.ref x0), .val (.int x1), .val .null, .val (.int x3), .val (.int x4), .val (.int x5), .val .null, .val .null, .val .null] [(.ref x0)]))
  refine Go.step (fun _ k => XS.iloadN X1.here hx rfl (hb hby d1_5) rfl k) ?_
  show Go _ _ _ _ (T1.setTop (mkF m 6 #[.val (.ref x0), .val (.int x1), .val .null, .val (.int x3), .val (.int x4), .val (.int x5), .val .null, .val .null, .val .null] [(.int x1), (.ref x0)]))
  obtain ⟨T2, h2, X2, e2, W2, st2⟩ := putF X1 hx hZ hown (host := "") (Or.inl (hw _ (List.mem_of_getElem? (i := 14) rfl))) Via.refl e1 F_code E0 (Or.inr ⟨(hw _ (List.mem_of_getElem? (i := 15) rfl)), rfl, hnm⟩) (hw _ (List.mem_of_getElem? (i := 1) rfl)) (ty := .int) (by decide) rfl rfl (g := (mkF m 6 #[.val (.ref x0), .val (.int x1), .val .null, .val (.int x3), .val (.int x4), .val (.int x5), .val .null, .val .null, .val .null] [(.int x1), (.ref x0)])) rfl rfl (hb hby d1_6)
  have F2_code := F_code.same W2
  have F2_language := F_language.other W2 (Or.inr (slot_ne (Or.inr (hw _ (List.mem_of_getElem? (i := 17) rfl))) (Or.inr (hw _ (List.mem_of_getElem? (i := 15) rfl))) (by decide) (t := (.object "java/lang/String")) (t' := .int) (by decide) (by decide)))
  have F2_version := F_version.other W2 (Or.inr (slot_ne (Or.inr (hw _ (List.mem_of_getElem? (i := 19) rfl))) (Or.inr (hw _ (List.mem_of_getElem? (i := 15) rfl))) (by decide) (t := .int) (t' := .int) (by decide) (by decide)))
  have F2_opaque := F_opaque.other W2 (Or.inr (slot_ne (Or.inr (hw _ (List.mem_of_getElem? (i := 21) rfl))) (Or.inr (hw _ (List.mem_of_getElem? (i := 15) rfl))) (by decide) (t := .int) (t' := .int) (by decide) (by decide)))
  have F2_flag := F_flag.other W2 (Or.inr (slot_ne (Or.inr (hw _ (List.mem_of_getElem? (i := 23) rfl))) (Or.inr (hw _ (List.mem_of_getElem? (i := 15) rfl))) (by decide) (t := .int) (t' := .int) (by decide) (by decide)))
  have F2_remark := F_remark.other W2 (Or.inr (slot_ne (Or.inr (hw _ (List.mem_of_getElem? (i := 25) rfl))) (Or.inr (hw _ (List.mem_of_getElem? (i := 15) rfl))) (by decide) (t := (.object "java/lang/String")) (t' := .int) (by decide) (by decide)))
  have F2_extFields := F_extFields.other W2 (Or.inr (slot_ne (Or.inr (hw _ (List.mem_of_getElem? (i := 27) rfl))) (Or.inr (hw _ (List.mem_of_getElem? (i := 15) rfl))) (by decide) (t := (.object "java/util/Map")) (t' := .int) (by decide) (by decide)))
  have F2_body := F_body.other W2 (Or.inr (slot_ne (Or.inr (hw _ (List.mem_of_getElem? (i := 29) rfl))) (Or.inr (hw _ (List.mem_of_getElem? (i := 15) rfl))) (by decide) (t := (.array .byte)) (t' := .int) (by decide) (by decide)))
  have E_2 := E0.wr W2
  have NF2 := Fr.snoc X2 (Fr.nil n0) g0
  refine Go.step st2 ?_
  show Go _ _ _ _ (T2.setTop (mkF m 9 #[.val (.ref x0), .val (.int x1), .val .null, .val (.int x3), .val (.int x4), .val (.int x5), .val .null, .val .null, .val .null] []))
  refine Go.step (fun _ k => XS.aloadN X2.here hx rfl (hb hby d1_9) rfl rfl k) ?_
  show Go _ _ _ _ (T2.setTop (mkF m 10 #[.val (.ref x0), .val (.int x1), .val .null, .val (.int x3), .val (.int x4), .val (.int x5), .val .null, .val .null, .val .null] [(.ref x0)]))
  refine Go.step (fun _ k => XS.aloadN X2.here hx rfl (hb hby d1_10) rfl rfl k) ?_
  show Go _ _ _ _ (T2.setTop (mkF m 11 #[.val (.ref x0), .val (.int x1), .val .null, .val (.int x3), .val (.int x4), .val (.int x5), .val .null, .val .null, .val .null] [.null, (.ref x0)]))
  obtain ⟨T3, h3, X3, e3, W3, st3⟩ := putF X2 hx hZ hown (host := "") (Or.inl (hw _ (List.mem_of_getElem? (i := 16) rfl))) Via.refl e2 F2_language E_2 (Or.inr ⟨(hw _ (List.mem_of_getElem? (i := 17) rfl)), rfl, hnm⟩) (hw _ (List.mem_of_getElem? (i := 1) rfl)) (ty := (.object "java/lang/String")) (by decide) rfl rfl (g := (mkF m 11 #[.val (.ref x0), .val (.int x1), .val .null, .val (.int x3), .val (.int x4), .val (.int x5), .val .null, .val .null, .val .null] [.null, (.ref x0)])) rfl rfl (hb hby d1_11)
  have F3_language := F2_language.same W3
  have F3_version := F2_version.other W3 (Or.inr (slot_ne (Or.inr (hw _ (List.mem_of_getElem? (i := 19) rfl))) (Or.inr (hw _ (List.mem_of_getElem? (i := 17) rfl))) (by decide) (t := .int) (t' := (.object "java/lang/String")) (by decide) (by decide)))
  have F3_opaque := F2_opaque.other W3 (Or.inr (slot_ne (Or.inr (hw _ (List.mem_of_getElem? (i := 21) rfl))) (Or.inr (hw _ (List.mem_of_getElem? (i := 17) rfl))) (by decide) (t := .int) (t' := (.object "java/lang/String")) (by decide) (by decide)))
  have F3_flag := F2_flag.other W3 (Or.inr (slot_ne (Or.inr (hw _ (List.mem_of_getElem? (i := 23) rfl))) (Or.inr (hw _ (List.mem_of_getElem? (i := 17) rfl))) (by decide) (t := .int) (t' := (.object "java/lang/String")) (by decide) (by decide)))
  have F3_remark := F2_remark.other W3 (Or.inr (slot_ne (Or.inr (hw _ (List.mem_of_getElem? (i := 25) rfl))) (Or.inr (hw _ (List.mem_of_getElem? (i := 17) rfl))) (by decide) (t := (.object "java/lang/String")) (t' := (.object "java/lang/String")) (by decide) (by decide)))
  have F3_extFields := F2_extFields.other W3 (Or.inr (slot_ne (Or.inr (hw _ (List.mem_of_getElem? (i := 27) rfl))) (Or.inr (hw _ (List.mem_of_getElem? (i := 17) rfl))) (by decide) (t := (.object "java/util/Map")) (t' := (.object "java/lang/String")) (by decide) (by decide)))
  have F3_body := F2_body.other W3 (Or.inr (slot_ne (Or.inr (hw _ (List.mem_of_getElem? (i := 29) rfl))) (Or.inr (hw _ (List.mem_of_getElem? (i := 17) rfl))) (by decide) (t := (.array .byte)) (t' := (.object "java/lang/String")) (by decide) (by decide)))
  have E_3 := E_2.wr W3
  have NF3 := Fr.snoc X3 NF2 g0
  refine Go.step st3 ?_
  show Go _ _ _ _ (T3.setTop (mkF m 14 #[.val (.ref x0), .val (.int x1), .val .null, .val (.int x3), .val (.int x4), .val (.int x5), .val .null, .val .null, .val .null] []))
  refine Go.step (fun _ k => XS.aloadN X3.here hx rfl (hb hby d1_14) rfl rfl k) ?_
  show Go _ _ _ _ (T3.setTop (mkF m 15 #[.val (.ref x0), .val (.int x1), .val .null, .val (.int x3), .val (.int x4), .val (.int x5), .val .null, .val .null, .val .null] [(.ref x0)]))
  refine Go.step (fun _ k => XS.iloadN X3.here hx rfl (hb hby d1_15) rfl k) ?_
  show Go _ _ _ _ (T3.setTop (mkF m 16 #[.val (.ref x0), .val (.int x1), .val .null, .val (.int x3), .val (.int x4), .val (.int x5), .val .null, .val .null, .val .null] [(.int x3), (.ref x0)]))
  obtain ⟨T4, h4, X4, e4, W4, st4⟩ := putF X3 hx hZ hown (host := "") (Or.inl (hw _ (List.mem_of_getElem? (i := 18) rfl))) Via.refl e3 F3_version E_3 (Or.inr ⟨(hw _ (List.mem_of_getElem? (i := 19) rfl)), rfl, hnm⟩) (hw _ (List.mem_of_getElem? (i := 1) rfl)) (ty := .int) (by decide) rfl rfl (g := (mkF m 16 #[.val (.ref x0), .val (.int x1), .val .null, .val (.int x3), .val (.int x4), .val (.int x5), .val .null, .val .null, .val .null] [(.int x3), (.ref x0)])) rfl rfl (hb hby d1_16)
  have F4_version := F3_version.same W4
  have F4_opaque := F3_opaque.other W4 (Or.inr (slot_ne (Or.inr (hw _ (List.mem_of_getElem? (i := 21) rfl))) (Or.inr (hw _ (List.mem_of_getElem? (i := 19) rfl))) (by decide) (t := .int) (t' := .int) (by decide) (by decide)))
  have F4_flag := F3_flag.other W4 (Or.inr (slot_ne (Or.inr (hw _ (List.mem_of_getElem? (i := 23) rfl))) (Or.inr (hw _ (List.mem_of_getElem? (i := 19) rfl))) (by decide) (t := .int) (t' := .int) (by decide) (by decide)))
  have F4_remark := F3_remark.other W4 (Or.inr (slot_ne (Or.inr (hw _ (List.mem_of_getElem? (i := 25) rfl))) (Or.inr (hw _ (List.mem_of_getElem? (i := 19) rfl))) (by decide) (t := (.object "java/lang/String")) (t' := .int) (by decide) (by decide)))
  have F4_extFields := F3_extFields.other W4 (Or.inr (slot_ne (Or.inr (hw _ (List.mem_of_getElem? (i := 27) rfl))) (Or.inr (hw _ (List.mem_of_getElem? (i := 19) rfl))) (by decide) (t := (.object "java/util/Map")) (t' := .int) (by decide) (by decide)))
  have F4_body := F3_body.other W4 (Or.inr (slot_ne (Or.inr (hw _ (List.mem_of_getElem? (i := 29) rfl))) (Or.inr (hw _ (List.mem_of_getElem? (i := 19) rfl))) (by decide) (t := (.array .byte)) (t' := .int) (by decide) (by decide)))
  have E_4 := E_3.wr W4
  have NF4 := Fr.snoc X4 NF3 g0
  refine Go.step st4 ?_
  show Go _ _ _ _ (T4.setTop (mkF m 19 #[.val (.ref x0), .val (.int x1), .val .null, .val (.int x3), .val (.int x4), .val (.int x5), .val .null, .val .null, .val .null] []))
  refine Go.step (fun _ k => XS.aloadN X4.here hx rfl (hb hby d1_19) rfl rfl k) ?_
  show Go _ _ _ _ (T4.setTop (mkF m 20 #[.val (.ref x0), .val (.int x1), .val .null, .val (.int x3), .val (.int x4), .val (.int x5), .val .null, .val .null, .val .null] [(.ref x0)]))
  refine Go.step (fun _ k => XS.iload X4.here hx rfl (hb hby d1_20) rfl k) ?_
  show Go _ _ _ _ (T4.setTop (mkF m 22 #[.val (.ref x0), .val (.int x1), .val .null, .val (.int x3), .val (.int x4), .val (.int x5), .val .null, .val .null, .val .null] [(.int x4), (.ref x0)]))
  obtain ⟨T5, h5, X5, e5, W5, st5⟩ := putF X4 hx hZ hown (host := "") (Or.inl (hw _ (List.mem_of_getElem? (i := 20) rfl))) Via.refl e4 F4_opaque E_4 (Or.inr ⟨(hw _ (List.mem_of_getElem? (i := 21) rfl)), rfl, hnm⟩) (hw _ (List.mem_of_getElem? (i := 1) rfl)) (ty := .int) (by decide) rfl rfl (g := (mkF m 22 #[.val (.ref x0), .val (.int x1), .val .null, .val (.int x3), .val (.int x4), .val (.int x5), .val .null, .val .null, .val .null] [(.int x4), (.ref x0)])) rfl rfl (hb hby d1_22)
  have F5_opaque := F4_opaque.same W5
  have F5_flag := F4_flag.other W5 (Or.inr (slot_ne (Or.inr (hw _ (List.mem_of_getElem? (i := 23) rfl))) (Or.inr (hw _ (List.mem_of_getElem? (i := 21) rfl))) (by decide) (t := .int) (t' := .int) (by decide) (by decide)))
  have F5_remark := F4_remark.other W5 (Or.inr (slot_ne (Or.inr (hw _ (List.mem_of_getElem? (i := 25) rfl))) (Or.inr (hw _ (List.mem_of_getElem? (i := 21) rfl))) (by decide) (t := (.object "java/lang/String")) (t' := .int) (by decide) (by decide)))
  have F5_extFields := F4_extFields.other W5 (Or.inr (slot_ne (Or.inr (hw _ (List.mem_of_getElem? (i := 27) rfl))) (Or.inr (hw _ (List.mem_of_getElem? (i := 21) rfl))) (by decide) (t := (.object "java/util/Map")) (t' := .int) (by decide) (by decide)))
  have F5_body := F4_body.other W5 (Or.inr (slot_ne (Or.inr (hw _ (List.mem_of_getElem? (i := 29) rfl))) (Or.inr (hw _ (List.mem_of_getElem? (i := 21) rfl))) (by decide) (t := (.array .byte)) (t' := .int) (by decide) (by decide)))
  have E_5 := E_4.wr W5
  have NF5 := Fr.snoc X5 NF4 g0
  refine Go.step st5 ?_
  show Go _ _ _ _ (T5.setTop (mkF m 25 #[.val (.ref x0), .val (.int x1), .val .null, .val (.int x3), .val (.int x4), .val (.int x5), .val .null, .val .null, .val .null] []))
  refine Go.step (fun _ k => XS.aloadN X5.here hx rfl (hb hby d1_25) rfl rfl k) ?_
  show Go _ _ _ _ (T5.setTop (mkF m 26 #[.val (.ref x0), .val (.int x1), .val .null, .val (.int x3), .val (.int x4), .val (.int x5), .val .null, .val .null, .val .null] [(.ref x0)]))
  refine Go.step (fun _ k => XS.iload X5.here hx rfl (hb hby d1_26) rfl k) ?_
  show Go _ _ _ _ (T5.setTop (mkF m 28 #[.val (.ref x0), .val (.int x1), .val .null, .val (.int x3), .val (.int x4), .val (.int x5), .val .null, .val .null, .val .null] [(.int x5), (.ref x0)]))
  obtain ⟨T6, h6, X6, e6, W6, st6⟩ := putF X5 hx hZ hown (host := "") (Or.inl (hw _ (List.mem_of_getElem? (i := 22) rfl))) Via.refl e5 F5_flag E_5 (Or.inr ⟨(hw _ (List.mem_of_getElem? (i := 23) rfl)), rfl, hnm⟩) (hw _ (List.mem_of_getElem? (i := 1) rfl)) (ty := .int) (by decide) rfl rfl (g := (mkF m 28 #[.val (.ref x0), .val (.int x1), .val .null, .val (.int x3), .val (.int x4), .val (.int x5), .val .null, .val .null, .val .null] [(.int x5), (.ref x0)])) rfl rfl (hb hby d1_28)
  have F6_flag := F5_flag.same W6
  have F6_remark := F5_remark.other W6 (Or.inr (slot_ne (Or.inr (hw _ (List.mem_of_getElem? (i := 25) rfl))) (Or.inr (hw _ (List.mem_of_getElem? (i := 23) rfl))) (by decide) (t := (.object "java/lang/String")) (t' := .int) (by decide) (by decide)))
  have F6_extFields := F5_extFields.other W6 (Or.inr (slot_ne (Or.inr (hw _ (List.mem_of_getElem? (i := 27) rfl))) (Or.inr (hw _ (List.mem_of_getElem? (i := 23) rfl))) (by decide) (t := (.object "java/util/Map")) (t' := .int) (by decide) (by decide)))
  have F6_body := F5_body.other W6 (Or.inr (slot_ne (Or.inr (hw _ (List.mem_of_getElem? (i := 29) rfl))) (Or.inr (hw _ (List.mem_of_getElem? (i := 23) rfl))) (by decide) (t := (.array .byte)) (t' := .int) (by decide) (by decide)))
  have E_6 := E_5.wr W6
  have NF6 := Fr.snoc X6 NF5 g0
  refine Go.step st6 ?_
  show Go _ _ _ _ (T6.setTop (mkF m 31 #[.val (.ref x0), .val (.int x1), .val .null, .val (.int x3), .val (.int x4), .val (.int x5), .val .null, .val .null, .val .null] []))
  refine Go.step (fun _ k => XS.aloadN X6.here hx rfl (hb hby d1_31) rfl rfl k) ?_
  show Go _ _ _ _ (T6.setTop (mkF m 32 #[.val (.ref x0), .val (.int x1), .val .null, .val (.int x3), .val (.int x4), .val (.int x5), .val .null, .val .null, .val .null] [(.ref x0)]))
  refine Go.step (fun _ k => XS.aload X6.here hx rfl (hb hby d1_32) rfl rfl k) ?_
  show Go _ _ _ _ (T6.setTop (mkF m 34 #[.val (.ref x0), .val (.int x1), .val .null, .val (.int x3), .val (.int x4), .val (.int x5), .val .null, .val .null, .val .null] [.null, (.ref x0)]))
  obtain ⟨T7, h7, X7, e7, W7, st7⟩ := putF X6 hx hZ hown (host := "") (Or.inl (hw _ (List.mem_of_getElem? (i := 24) rfl))) Via.refl e6 F6_remark E_6 (Or.inr ⟨(hw _ (List.mem_of_getElem? (i := 25) rfl)), rfl, hnm⟩) (hw _ (List.mem_of_getElem? (i := 1) rfl)) (ty := (.object "java/lang/String")) (by decide) rfl rfl (g := (mkF m 34 #[.val (.ref x0), .val (.int x1), .val .null, .val (.int x3), .val (.int x4), .val (.int x5), .val .null, .val .null, .val .null] [.null, (.ref x0)])) rfl rfl (hb hby d1_34)
  have F7_flag := F6_flag.other W7 (Or.inr (slot_ne (Or.inr (hw _ (List.mem_of_getElem? (i := 23) rfl))) (Or.inr (hw _ (List.mem_of_getElem? (i := 25) rfl))) (by decide) (t := .int) (t' := (.object "java/lang/String")) (by decide) (by decide)))
  have F7_remark := F6_remark.same W7
  have F7_extFields := F6_extFields.other W7 (Or.inr (slot_ne (Or.inr (hw _ (List.mem_of_getElem? (i := 27) rfl))) (Or.inr (hw _ (List.mem_of_getElem? (i := 25) rfl))) (by decide) (t := (.object "java/util/Map")) (t' := (.object "java/lang/String")) (by decide) (by decide)))
  have F7_body := F6_body.other W7 (Or.inr (slot_ne (Or.inr (hw _ (List.mem_of_getElem? (i := 29) rfl))) (Or.inr (hw _ (List.mem_of_getElem? (i := 25) rfl))) (by decide) (t := (.array .byte)) (t' := (.object "java/lang/String")) (by decide) (by decide)))
  have E_7 := E_6.wr W7
  have NF7 := Fr.snoc X7 NF6 g0
  refine Go.step st7 ?_
  show Go _ _ _ _ (T7.setTop (mkF m 37 #[.val (.ref x0), .val (.int x1), .val .null, .val (.int x3), .val (.int x4), .val (.int x5), .val .null, .val .null, .val .null] []))
  refine Go.step (fun _ k => XS.aloadN X7.here hx rfl (hb hby d1_37) rfl rfl k) ?_
  show Go _ _ _ _ (T7.setTop (mkF m 38 #[.val (.ref x0), .val (.int x1), .val .null, .val (.int x3), .val (.int x4), .val (.int x5), .val .null, .val .null, .val .null] [(.ref x0)]))
  refine Go.step (fun _ k => XS.aload X7.here hx rfl (hb hby d1_38) rfl rfl k) ?_
  show Go _ _ _ _ (T7.setTop (mkF m 40 #[.val (.ref x0), .val (.int x1), .val .null, .val (.int x3), .val (.int x4), .val (.int x5), .val .null, .val .null, .val .null] [.null, (.ref x0)]))
  obtain ⟨T8, h8, X8, e8, W8, st8⟩ := putF X7 hx hZ hown (host := "") (Or.inl (hw _ (List.mem_of_getElem? (i := 26) rfl))) Via.refl e7 F7_extFields E_7 (Or.inr ⟨(hw _ (List.mem_of_getElem? (i := 27) rfl)), rfl, hnm⟩) (hw _ (List.mem_of_getElem? (i := 1) rfl)) (ty := (.object "java/util/Map")) (by decide) rfl rfl (g := (mkF m 40 #[.val (.ref x0), .val (.int x1), .val .null, .val (.int x3), .val (.int x4), .val (.int x5), .val .null, .val .null, .val .null] [.null, (.ref x0)])) rfl rfl (hb hby d1_40)
  have F8_flag := F7_flag.other W8 (Or.inr (slot_ne (Or.inr (hw _ (List.mem_of_getElem? (i := 23) rfl))) (Or.inr (hw _ (List.mem_of_getElem? (i := 27) rfl))) (by decide) (t := .int) (t' := (.object "java/util/Map")) (by decide) (by decide)))
  have F8_extFields := F7_extFields.same W8
  have F8_body := F7_body.other W8 (Or.inr (slot_ne (Or.inr (hw _ (List.mem_of_getElem? (i := 29) rfl))) (Or.inr (hw _ (List.mem_of_getElem? (i := 27) rfl))) (by decide) (t := (.array .byte)) (t' := (.object "java/util/Map")) (by decide) (by decide)))
  have E_8 := E_7.wr W8
  have NF8 := Fr.snoc X8 NF7 g0
  refine Go.step st8 ?_
  show Go _ _ _ _ (T8.setTop (mkF m 43 #[.val (.ref x0), .val (.int x1), .val .null, .val (.int x3), .val (.int x4), .val (.int x5), .val .null, .val .null, .val .null] []))
  refine Go.step (fun _ k => XS.aloadN X8.here hx rfl (hb hby d1_43) rfl rfl k) ?_
  show Go _ _ _ _ (T8.setTop (mkF m 44 #[.val (.ref x0), .val (.int x1), .val .null, .val (.int x3), .val (.int x4), .val (.int x5), .val .null, .val .null, .val .null] [(.ref x0)]))
  refine Go.step (fun _ k => XS.aload X8.here hx rfl (hb hby d1_44) rfl rfl k) ?_
  show Go _ _ _ _ (T8.setTop (mkF m 46 #[.val (.ref x0), .val (.int x1), .val .null, .val (.int x3), .val (.int x4), .val (.int x5), .val .null, .val .null, .val .null] [.null, (.ref x0)]))
  obtain ⟨T9, h9, X9, e9, W9, st9⟩ := putF X8 hx hZ hown (host := "") (Or.inl (hw _ (List.mem_of_getElem? (i := 28) rfl))) Via.refl e8 F8_body E_8 (Or.inr ⟨(hw _ (List.mem_of_getElem? (i := 29) rfl)), rfl, hnm⟩) (hw _ (List.mem_of_getElem? (i := 1) rfl)) (ty := (.array .byte)) (by decide) rfl rfl (g := (mkF m 46 #[.val (.ref x0), .val (.int x1), .val .null, .val (.int x3), .val (.int x4), .val (.int x5), .val .null, .val .null, .val .null] [.null, (.ref x0)])) rfl rfl (hb hby d1_46)
  have F9_flag := F8_flag.other W9 (Or.inr (slot_ne (Or.inr (hw _ (List.mem_of_getElem? (i := 23) rfl))) (Or.inr (hw _ (List.mem_of_getElem? (i := 29) rfl))) (by decide) (t := .int) (t' := (.array .byte)) (by decide) (by decide)))
  have F9_body := F8_body.same W9
  have E_9 := E_8.wr W9
  have NF9 := Fr.snoc X9 NF8 g0
  refine Go.step st9 ?_
  show Go _ _ _ _ (T9.setTop (mkF m 49 #[.val (.ref x0), .val (.int x1), .val .null, .val (.int x3), .val (.int x4), .val (.int x5), .val .null, .val .null, .val .null] []))
  exact leafV X9 hx hret hlk (hb hby d1_49) ⟨rfl, NF9, Nat.le_of_eq (by rw [e9, W9.size, W8.size, W7.size, W6.size, W5.size, W4.size, W3.size, W2.size]), by rw [e9]; exact E_9, by rw [e9]; exact F9_flag⟩ (by decide) (by decide)
theorem efr (m : MethodId) (x0 : Addr) (x1 : Int32) (x2 : Addr) (x3 : Int32) (x4 : Int32) (x5 : Int32) : entryFrame m #[(.ref x0), (.int x1), (.ref x2), (.int x3), (.int x4), (.int x5), .null, .null, .null] 9 = mkF m 0 #[.val (.ref x0), .val (.int x1), .val (.ref x2), .val (.int x3), .val (.int x4), .val (.int x5), .val .null, .val .null, .val .null] [] := by first | (simp [entryFrame, mkF, argsToLocals, Value.category]; done) | rfl
set_option maxRecDepth 65536 in
set_option maxHeartbeats 40000000 in
theorem rcr (l : Launch) (Z : State) (a0 : Array Value) (hw : ∀ d ∈ tables_1, d.before a0 Z = true) (ws : List Jvm.Cond) (x0 : Addr) (x1 : Int32) (x2 : Addr) (x3 : Int32) (x4 : Int32) (x5 : Int32) (h0 : Heap) (n0 : Nat) (g0 : n0 ≤ x0) (E0 : Exa Z h0 x0 "com/example/topiq/topiq/remoting/RemotingCommand") (F_code : Fld Z h0 x0 "com/example/topiq/topiq/remoting/RemotingCommand" "code" "I" (.int (0 : Int32))) (F_language : Fld Z h0 x0 "com/example/topiq/topiq/remoting/RemotingCommand" "language" "Ljava/lang/String;" .null) (F_version : Fld Z h0 x0 "com/example/topiq/topiq/remoting/RemotingCommand" "version" "I" (.int (0 : Int32))) (F_opaque : Fld Z h0 x0 "com/example/topiq/topiq/remoting/RemotingCommand" "opaque" "I" (.int (0 : Int32))) (F_flag : Fld Z h0 x0 "com/example/topiq/topiq/remoting/RemotingCommand" "flag" "I" (.int (0 : Int32))) (F_remark : Fld Z h0 x0 "com/example/topiq/topiq/remoting/RemotingCommand" "remark" "Ljava/lang/String;" .null) (F_extFields : Fld Z h0 x0 "com/example/topiq/topiq/remoting/RemotingCommand" "extFields" "Ljava/util/Map;" .null) (F_body : Fld Z h0 x0 "com/example/topiq/topiq/remoting/RemotingCommand" "body" "[B" .null) : Con l Z (⟨"com/example/topiq/topiq/remoting/RemotingCommand", "<init>", "(ILjava/lang/String;IIILjava/lang/String;Ljava/util/Map;[B)V"⟩ : MethodName) prog_30_method_1_code 9 none ws ({ frames := 2, cells := 0, slots := 0, locals := 24 } : Room) #[(.ref x0), (.int x1), (.ref x2), (.int x3), (.int x4), (.int x5), .null, .null, .null] h0 (fun v h L => v = none ∧ Fr n0 L ∧ h0.size ≤ h.size ∧ Exa Z h x0 "com/example/topiq/topiq/remoting/RemotingCommand" ∧ Fld Z h x0 "com/example/topiq/topiq/remoting/RemotingCommand" "flag" "I" (.int x5)) := by
  refine Con.of pn1 fun p e s m below meth c s₁ hZ hx hby hml hown hret hlk hnm X0 e0 => ?_
  rw [efr]
  show Go _ _ _ _ (s₁.setTop (mkF m 0 #[.val (.ref x0), .val (.int x1), .val (.ref x2), .val (.int x3), .val (.int x4), .val (.int x5), .val .null, .val .null, .val .null] []))
  refine Go.step (fun _ k => XS.aloadN X0.here hx rfl (hb hby d1_0) rfl rfl k) ?_
  show Go _ _ _ _ (s₁.setTop (mkF m 1 #[.val (.ref x0), .val (.int x1), .val (.ref x2), .val (.int x3), .val (.int x4), .val (.int x5), .val .null, .val .null, .val .null] [(.ref x0)]))
  refine goI X0 hx hZ rfl hown (hw _ (List.mem_of_getElem? (i := 6) rfl)) (hw _ (List.mem_of_getElem? (i := 7) rfl)) (hw _ (List.mem_of_getElem? (i := 9) rfl)) (hw _ (List.mem_of_getElem? (i := 10) rfl)) (by decide) (rm2 l Z a0 hw [] x0 h0) e0 (by rw [hml]; rfl) x0 [] [] rfl pd2 rfl rfl 0 rfl (hb hby d1_1) (by decide) (by decide) (by decide) (by decide) fun T1 L1 v1 q1 X1 => ?_
  obtain ⟨rfl, e1, rfl⟩ := q1
  rw [List.append_nil] at X1
  show Go _ _ _ _ (T1.setTop (mkF m 4 #[.val (.ref x0), .val (.int x1), .val (.ref x2), .val (.int x3), .val (.int x4), .val (.int x5), .val .null, .val .null, .val .null] []))
  refine Go.step (fun _ k => XS.aloadN X1.here hx rfl (hb hby d1_4) rfl rfl k) ?_
  show Go _ _ _ _ (T1.setTop (mkF m 5 #[.val (.ref x0), .val (.int x1), .val (.ref x2), .val (.int x3), .val (.int x4), .val (.int x5), .val .null, .val .null, .val .null] [(.ref x0)]))
  refine Go.step (fun _ k => XS.iloadN X1.here hx rfl (hb hby d1_5) rfl k) ?_
  show Go _ _ _ _ (T1.setTop (mkF m 6 #[.val (.ref x0), .val (.int x1), .val (.ref x2), .val (.int x3), .val (.int x4), .val (.int x5), .val .null, .val .null, .val .null] [(.int x1), (.ref x0)]))
  obtain ⟨T2, h2, X2, e2, W2, st2⟩ := putF X1 hx hZ hown (host := "") (Or.inl (hw _ (List.mem_of_getElem? (i := 14) rfl))) Via.refl e1 F_code E0 (Or.inr ⟨(hw _ (List.mem_of_getElem? (i := 15) rfl)), rfl, hnm⟩) (hw _ (List.mem_of_getElem? (i := 1) rfl)) (ty := .int) (by decide) rfl rfl (g := (mkF m 6 #[.val (.ref x0), .val (.int x1), .val (.ref x2), .val (.int x3), .val (.int x4), .val (.int x5), .val .null, .val .null, .val .null] [(.int x1), (.ref x0)])) rfl rfl (hb hby d1_6)
  have F2_code := F_code.same W2
  have F2_language := F_language.other W2 (Or.inr (slot_ne (Or.inr (hw _ (List.mem_of_getElem? (i := 17) rfl))) (Or.inr (hw _ (List.mem_of_getElem? (i := 15) rfl))) (by decide) (t := (.object "java/lang/String")) (t' := .int) (by decide) (by decide)))
  have F2_version := F_version.other W2 (Or.inr (slot_ne (Or.inr (hw _ (List.mem_of_getElem? (i := 19) rfl))) (Or.inr (hw _ (List.mem_of_getElem? (i := 15) rfl))) (by decide) (t := .int) (t' := .int) (by decide) (by decide)))
  have F2_opaque := F_opaque.other W2 (Or.inr (slot_ne (Or.inr (hw _ (List.mem_of_getElem? (i := 21) rfl))) (Or.inr (hw _ (List.mem_of_getElem? (i := 15) rfl))) (by decide) (t := .int) (t' := .int) (by decide) (by decide)))
  have F2_flag := F_flag.other W2 (Or.inr (slot_ne (Or.inr (hw _ (List.mem_of_getElem? (i := 23) rfl))) (Or.inr (hw _ (List.mem_of_getElem? (i := 15) rfl))) (by decide) (t := .int) (t' := .int) (by decide) (by decide)))
  have F2_remark := F_remark.other W2 (Or.inr (slot_ne (Or.inr (hw _ (List.mem_of_getElem? (i := 25) rfl))) (Or.inr (hw _ (List.mem_of_getElem? (i := 15) rfl))) (by decide) (t := (.object "java/lang/String")) (t' := .int) (by decide) (by decide)))
  have F2_extFields := F_extFields.other W2 (Or.inr (slot_ne (Or.inr (hw _ (List.mem_of_getElem? (i := 27) rfl))) (Or.inr (hw _ (List.mem_of_getElem? (i := 15) rfl))) (by decide) (t := (.object "java/util/Map")) (t' := .int) (by decide) (by decide)))
  have F2_body := F_body.other W2 (Or.inr (slot_ne (Or.inr (hw _ (List.mem_of_getElem? (i := 29) rfl))) (Or.inr (hw _ (List.mem_of_getElem? (i := 15) rfl))) (by decide) (t := (.array .byte)) (t' := .int) (by decide) (by decide)))
  have E_2 := E0.wr W2
  have NF2 := Fr.snoc X2 (Fr.nil n0) g0
  refine Go.step st2 ?_
  show Go _ _ _ _ (T2.setTop (mkF m 9 #[.val (.ref x0), .val (.int x1), .val (.ref x2), .val (.int x3), .val (.int x4), .val (.int x5), .val .null, .val .null, .val .null] []))
  refine Go.step (fun _ k => XS.aloadN X2.here hx rfl (hb hby d1_9) rfl rfl k) ?_
  show Go _ _ _ _ (T2.setTop (mkF m 10 #[.val (.ref x0), .val (.int x1), .val (.ref x2), .val (.int x3), .val (.int x4), .val (.int x5), .val .null, .val .null, .val .null] [(.ref x0)]))
  refine Go.step (fun _ k => XS.aloadN X2.here hx rfl (hb hby d1_10) rfl rfl k) ?_
  show Go _ _ _ _ (T2.setTop (mkF m 11 #[.val (.ref x0), .val (.int x1), .val (.ref x2), .val (.int x3), .val (.int x4), .val (.int x5), .val .null, .val .null, .val .null] [(.ref x2), (.ref x0)]))
  obtain ⟨T3, h3, X3, e3, W3, st3⟩ := putF X2 hx hZ hown (host := "") (Or.inl (hw _ (List.mem_of_getElem? (i := 16) rfl))) Via.refl e2 F2_language E_2 (Or.inr ⟨(hw _ (List.mem_of_getElem? (i := 17) rfl)), rfl, hnm⟩) (hw _ (List.mem_of_getElem? (i := 1) rfl)) (ty := (.object "java/lang/String")) (by decide) rfl rfl (g := (mkF m 11 #[.val (.ref x0), .val (.int x1), .val (.ref x2), .val (.int x3), .val (.int x4), .val (.int x5), .val .null, .val .null, .val .null] [(.ref x2), (.ref x0)])) rfl rfl (hb hby d1_11)
  have F3_language := F2_language.same W3
  have F3_version := F2_version.other W3 (Or.inr (slot_ne (Or.inr (hw _ (List.mem_of_getElem? (i := 19) rfl))) (Or.inr (hw _ (List.mem_of_getElem? (i := 17) rfl))) (by decide) (t := .int) (t' := (.object "java/lang/String")) (by decide) (by decide)))
  have F3_opaque := F2_opaque.other W3 (Or.inr (slot_ne (Or.inr (hw _ (List.mem_of_getElem? (i := 21) rfl))) (Or.inr (hw _ (List.mem_of_getElem? (i := 17) rfl))) (by decide) (t := .int) (t' := (.object "java/lang/String")) (by decide) (by decide)))
  have F3_flag := F2_flag.other W3 (Or.inr (slot_ne (Or.inr (hw _ (List.mem_of_getElem? (i := 23) rfl))) (Or.inr (hw _ (List.mem_of_getElem? (i := 17) rfl))) (by decide) (t := .int) (t' := (.object "java/lang/String")) (by decide) (by decide)))
  have F3_remark := F2_remark.other W3 (Or.inr (slot_ne (Or.inr (hw _ (List.mem_of_getElem? (i := 25) rfl))) (Or.inr (hw _ (List.mem_of_getElem? (i := 17) rfl))) (by decide) (t := (.object "java/lang/String")) (t' := (.object "java/lang/String")) (by decide) (by decide)))
  have F3_extFields := F2_extFields.other W3 (Or.inr (slot_ne (Or.inr (hw _ (List.mem_of_getElem? (i := 27) rfl))) (Or.inr (hw _ (List.mem_of_getElem? (i := 17) rfl))) (by decide) (t := (.object "java/util/Map")) (t' := (.object "java/lang/String")) (by decide) (by decide)))
  have F3_body := F2_body.other W3 (Or.inr (slot_ne (Or.inr (hw _ (List.mem_of_getElem? (i := 29) rfl))) (Or.inr (hw _ (List.mem_of_getElem? (i := 17) rfl))) (by decide) (t := (.array .byte)) (t' := (.object "java/lang/String")) (by decide) (by decide)))
  have E_3 := E_2.wr W3
  have NF3 := Fr.snoc X3 NF2 g0
  refine Go.step st3 ?_
  show Go _ _ _ _ (T3.setTop (mkF m 14 #[.val (.ref x0), .val (.int x1), .val (.ref x2), .val (.int x3), .val (.int x4), .val (.int x5), .val .null, .val .null, .val .null] []))
  refine Go.step (fun _ k => XS.aloadN X3.here hx rfl (hb hby d1_14) rfl rfl k) ?_
  show Go _ _ _ _ (T3.setTop (mkF m 15 #[.val (.ref x0), .val (.int x1), .val (.ref x2), .val (.int x3), .val (.int x4), .val (.int x5), .val .null, .val .null, .val .null] [(.ref x0)]))
  refine Go.step (fun _ k => XS.iloadN X3.here hx rfl (hb hby d1_15) rfl k) ?_
  show Go _ _ _ _ (T3.setTop (mkF m 16 #[.val (.ref x0), .val (.int x1), .val (.ref x2), .val (.int x3), .val (.int x4), .val (.int x5), .val .null, .val .null, .val .null] [(.int x3), (.ref x0)]))
  obtain ⟨T4, h4, X4, e4, W4, st4⟩ := putF X3 hx hZ hown (host := "") (Or.inl (hw _ (List.mem_of_getElem? (i := 18) rfl))) Via.refl e3 F3_version E_3 (Or.inr ⟨(hw _ (List.mem_of_getElem? (i := 19) rfl)), rfl, hnm⟩) (hw _ (List.mem_of_getElem? (i := 1) rfl)) (ty := .int) (by decide) rfl rfl (g := (mkF m 16 #[.val (.ref x0), .val (.int x1), .val (.ref x2), .val (.int x3), .val (.int x4), .val (.int x5), .val .null, .val .null, .val .null] [(.int x3), (.ref x0)])) rfl rfl (hb hby d1_16)
  have F4_version := F3_version.same W4
  have F4_opaque := F3_opaque.other W4 (Or.inr (slot_ne (Or.inr (hw _ (List.mem_of_getElem? (i := 21) rfl))) (Or.inr (hw _ (List.mem_of_getElem? (i := 19) rfl))) (by decide) (t := .int) (t' := .int) (by decide) (by decide)))
  have F4_flag := F3_flag.other W4 (Or.inr (slot_ne (Or.inr (hw _ (List.mem_of_getElem? (i := 23) rfl))) (Or.inr (hw _ (List.mem_of_getElem? (i := 19) rfl))) (by decide) (t := .int) (t' := .int) (by decide) (by decide)))
  have F4_remark := F3_remark.other W4 (Or.inr (slot_ne (Or.inr (hw _ (List.mem_of_getElem? (i := 25) rfl))) (Or.inr (hw _ (List.mem_of_getElem? (i := 19) rfl))) (by decide) (t := (.object "java/lang/String")) (t' := .int) (by decide) (by decide)))
  have F4_extFields := F3_extFields.other W4 (Or.inr (slot_ne (Or.inr (hw _ (List.mem_of_getElem? (i := 27) rfl))) (Or.inr (hw _ (List.mem_of_getElem? (i := 19) rfl))) (by decide) (t := (.object "java/util/Map")) (t' := .int) (by decide) (by decide)))
  have F4_body := F3_body.other W4 (Or.inr (slot_ne (Or.inr (hw _ (List.mem_of_getElem? (i := 29) rfl))) (Or.inr (hw _ (List.mem_of_getElem? (i := 19) rfl))) (by decide) (t := (.array .byte)) (t' := .int) (by decide) (by decide)))
  have E_4 := E_3.wr W4
  have NF4 := Fr.snoc X4 NF3 g0
  refine Go.step st4 ?_
  show Go _ _ _ _ (T4.setTop (mkF m 19 #[.val (.ref x0), .val (.int x1), .val (.ref x2), .val (.int x3), .val (.int x4), .val (.int x5), .val .null, .val .null, .val .null] []))
  refine Go.step (fun _ k => XS.aloadN X4.here hx rfl (hb hby d1_19) rfl rfl k) ?_
  show Go _ _ _ _ (T4.setTop (mkF m 20 #[.val (.ref x0), .val (.int x1), .val (.ref x2), .val (.int x3), .val (.int x4), .val (.int x5), .val .null, .val .null, .val .null] [(.ref x0)]))
  refine Go.step (fun _ k => XS.iload X4.here hx rfl (hb hby d1_20) rfl k) ?_
  show Go _ _ _ _ (T4.setTop (mkF m 22 #[.val (.ref x0), .val (.int x1), .val (.ref x2), .val (.int x3), .val (.int x4), .val (.int x5), .val .null, .val .null, .val .null] [(.int x4), (.ref x0)]))
  obtain ⟨T5, h5, X5, e5, W5, st5⟩ := putF X4 hx hZ hown (host := "") (Or.inl (hw _ (List.mem_of_getElem? (i := 20) rfl))) Via.refl e4 F4_opaque E_4 (Or.inr ⟨(hw _ (List.mem_of_getElem? (i := 21) rfl)), rfl, hnm⟩) (hw _ (List.mem_of_getElem? (i := 1) rfl)) (ty := .int) (by decide) rfl rfl (g := (mkF m 22 #[.val (.ref x0), .val (.int x1), .val (.ref x2), .val (.int x3), .val (.int x4), .val (.int x5), .val .null, .val .null, .val .null] [(.int x4), (.ref x0)])) rfl rfl (hb hby d1_22)
  have F5_opaque := F4_opaque.same W5
  have F5_flag := F4_flag.other W5 (Or.inr (slot_ne (Or.inr (hw _ (List.mem_of_getElem? (i := 23) rfl))) (Or.inr (hw _ (List.mem_of_getElem? (i := 21) rfl))) (by decide) (t := .int) (t' := .int) (by decide) (by decide)))
  have F5_remark := F4_remark.other W5 (Or.inr (slot_ne (Or.inr (hw _ (List.mem_of_getElem? (i := 25) rfl))) (Or.inr (hw _ (List.mem_of_getElem? (i := 21) rfl))) (by decide) (t := (.object "java/lang/String")) (t' := .int) (by decide) (by decide)))
  have F5_extFields := F4_extFields.other W5 (Or.inr (slot_ne (Or.inr (hw _ (List.mem_of_getElem? (i := 27) rfl))) (Or.inr (hw _ (List.mem_of_getElem? (i := 21) rfl))) (by decide) (t := (.object "java/util/Map")) (t' := .int) (by decide) (by decide)))
  have F5_body := F4_body.other W5 (Or.inr (slot_ne (Or.inr (hw _ (List.mem_of_getElem? (i := 29) rfl))) (Or.inr (hw _ (List.mem_of_getElem? (i := 21) rfl))) (by decide) (t := (.array .byte)) (t' := .int) (by decide) (by decide)))
  have E_5 := E_4.wr W5
  have NF5 := Fr.snoc X5 NF4 g0
  refine Go.step st5 ?_
  show Go _ _ _ _ (T5.setTop (mkF m 25 #[.val (.ref x0), .val (.int x1), .val (.ref x2), .val (.int x3), .val (.int x4), .val (.int x5), .val .null, .val .null, .val .null] []))
  refine Go.step (fun _ k => XS.aloadN X5.here hx rfl (hb hby d1_25) rfl rfl k) ?_
  show Go _ _ _ _ (T5.setTop (mkF m 26 #[.val (.ref x0), .val (.int x1), .val (.ref x2), .val (.int x3), .val (.int x4), .val (.int x5), .val .null, .val .null, .val .null] [(.ref x0)]))
  refine Go.step (fun _ k => XS.iload X5.here hx rfl (hb hby d1_26) rfl k) ?_
  show Go _ _ _ _ (T5.setTop (mkF m 28 #[.val (.ref x0), .val (.int x1), .val (.ref x2), .val (.int x3), .val (.int x4), .val (.int x5), .val .null, .val .null, .val .null] [(.int x5), (.ref x0)]))
  obtain ⟨T6, h6, X6, e6, W6, st6⟩ := putF X5 hx hZ hown (host := "") (Or.inl (hw _ (List.mem_of_getElem? (i := 22) rfl))) Via.refl e5 F5_flag E_5 (Or.inr ⟨(hw _ (List.mem_of_getElem? (i := 23) rfl)), rfl, hnm⟩) (hw _ (List.mem_of_getElem? (i := 1) rfl)) (ty := .int) (by decide) rfl rfl (g := (mkF m 28 #[.val (.ref x0), .val (.int x1), .val (.ref x2), .val (.int x3), .val (.int x4), .val (.int x5), .val .null, .val .null, .val .null] [(.int x5), (.ref x0)])) rfl rfl (hb hby d1_28)
  have F6_flag := F5_flag.same W6
  have F6_remark := F5_remark.other W6 (Or.inr (slot_ne (Or.inr (hw _ (List.mem_of_getElem? (i := 25) rfl))) (Or.inr (hw _ (List.mem_of_getElem? (i := 23) rfl))) (by decide) (t := (.object "java/lang/String")) (t' := .int) (by decide) (by decide)))
  have F6_extFields := F5_extFields.other W6 (Or.inr (slot_ne (Or.inr (hw _ (List.mem_of_getElem? (i := 27) rfl))) (Or.inr (hw _ (List.mem_of_getElem? (i := 23) rfl))) (by decide) (t := (.object "java/util/Map")) (t' := .int) (by decide) (by decide)))
  have F6_body := F5_body.other W6 (Or.inr (slot_ne (Or.inr (hw _ (List.mem_of_getElem? (i := 29) rfl))) (Or.inr (hw _ (List.mem_of_getElem? (i := 23) rfl))) (by decide) (t := (.array .byte)) (t' := .int) (by decide) (by decide)))
  have E_6 := E_5.wr W6
  have NF6 := Fr.snoc X6 NF5 g0
  refine Go.step st6 ?_
  show Go _ _ _ _ (T6.setTop (mkF m 31 #[.val (.ref x0), .val (.int x1), .val (.ref x2), .val (.int x3), .val (.int x4), .val (.int x5), .val .null, .val .null, .val .null] []))
  refine Go.step (fun _ k => XS.aloadN X6.here hx rfl (hb hby d1_31) rfl rfl k) ?_
  show Go _ _ _ _ (T6.setTop (mkF m 32 #[.val (.ref x0), .val (.int x1), .val (.ref x2), .val (.int x3), .val (.int x4), .val (.int x5), .val .null, .val .null, .val .null] [(.ref x0)]))
  refine Go.step (fun _ k => XS.aload X6.here hx rfl (hb hby d1_32) rfl rfl k) ?_
  show Go _ _ _ _ (T6.setTop (mkF m 34 #[.val (.ref x0), .val (.int x1), .val (.ref x2), .val (.int x3), .val (.int x4), .val (.int x5), .val .null, .val .null, .val .null] [.null, (.ref x0)]))
  obtain ⟨T7, h7, X7, e7, W7, st7⟩ := putF X6 hx hZ hown (host := "") (Or.inl (hw _ (List.mem_of_getElem? (i := 24) rfl))) Via.refl e6 F6_remark E_6 (Or.inr ⟨(hw _ (List.mem_of_getElem? (i := 25) rfl)), rfl, hnm⟩) (hw _ (List.mem_of_getElem? (i := 1) rfl)) (ty := (.object "java/lang/String")) (by decide) rfl rfl (g := (mkF m 34 #[.val (.ref x0), .val (.int x1), .val (.ref x2), .val (.int x3), .val (.int x4), .val (.int x5), .val .null, .val .null, .val .null] [.null, (.ref x0)])) rfl rfl (hb hby d1_34)
  have F7_flag := F6_flag.other W7 (Or.inr (slot_ne (Or.inr (hw _ (List.mem_of_getElem? (i := 23) rfl))) (Or.inr (hw _ (List.mem_of_getElem? (i := 25) rfl))) (by decide) (t := .int) (t' := (.object "java/lang/String")) (by decide) (by decide)))
  have F7_remark := F6_remark.same W7
  have F7_extFields := F6_extFields.other W7 (Or.inr (slot_ne (Or.inr (hw _ (List.mem_of_getElem? (i := 27) rfl))) (Or.inr (hw _ (List.mem_of_getElem? (i := 25) rfl))) (by decide) (t := (.object "java/util/Map")) (t' := (.object "java/lang/String")) (by decide) (by decide)))
  have F7_body := F6_body.other W7 (Or.inr (slot_ne (Or.inr (hw _ (List.mem_of_getElem? (i := 29) rfl))) (Or.inr (hw _ (List.mem_of_getElem? (i := 25) rfl))) (by decide) (t := (.array .byte)) (t' := (.object "java/lang/String")) (by decide) (by decide)))
  have E_7 := E_6.wr W7
  have NF7 := Fr.snoc X7 NF6 g0
  refine Go.step st7 ?_
  show Go _ _ _ _ (T7.setTop (mkF m 37 #[.val (.ref x0), .val (.int x1), .val (.ref x2), .val (.int x3), .val (.int x4), .val (.int x5), .val .null, .val .null, .val .null] []))
  refine Go.step (fun _ k => XS.aloadN X7.here hx rfl (hb hby d1_37) rfl rfl k) ?_
  show Go _ _ _ _ (T7.setTop (mkF m 38 #[.val (.ref x0), .val (.int x1), .val (.ref x2), .val (.int x3), .val (.int x4), .val (.int x5), .val .null, .val .null, .val .null] [(.ref x0)]))
  refine Go.step (fun _ k => XS.aload X7.here hx rfl (hb hby d1_38) rfl rfl k) ?_
  show Go _ _ _ _ (T7.setTop (mkF m 40 #[.val (.ref x0), .val (.int x1), .val (.ref x2), .val (.int x3), .val (.int x4), .val (.int x5), .val .null, .val .null, .val .null] [.null, (.ref x0)]))
  obtain ⟨T8, h8, X8, e8, W8, st8⟩ := putF X7 hx hZ hown (host := "") (Or.inl (hw _ (List.mem_of_getElem? (i := 26) rfl))) Via.refl e7 F7_extFields E_7 (Or.inr ⟨(hw _ (List.mem_of_getElem? (i := 27) rfl)), rfl, hnm⟩) (hw _ (List.mem_of_getElem? (i := 1) rfl)) (ty := (.object "java/util/Map")) (by decide) rfl rfl (g := (mkF m 40 #[.val (.ref x0), .val (.int x1), .val (.ref x2), .val (.int x3), .val (.int x4), .val (.int x5), .val .null, .val .null, .val .null] [.null, (.ref x0)])) rfl rfl (hb hby d1_40)
  have F8_flag := F7_flag.other W8 (Or.inr (slot_ne (Or.inr (hw _ (List.mem_of_getElem? (i := 23) rfl))) (Or.inr (hw _ (List.mem_of_getElem? (i := 27) rfl))) (by decide) (t := .int) (t' := (.object "java/util/Map")) (by decide) (by decide)))
  have F8_extFields := F7_extFields.same W8
  have F8_body := F7_body.other W8 (Or.inr (slot_ne (Or.inr (hw _ (List.mem_of_getElem? (i := 29) rfl))) (Or.inr (hw _ (List.mem_of_getElem? (i := 27) rfl))) (by decide) (t := (.array .byte)) (t' := (.object "java/util/Map")) (by decide) (by decide)))
  have E_8 := E_7.wr W8
  have NF8 := Fr.snoc X8 NF7 g0
  refine Go.step st8 ?_
  show Go _ _ _ _ (T8.setTop (mkF m 43 #[.val (.ref x0), .val (.int x1), .val (.ref x2), .val (.int x3), .val (.int x4), .val (.int x5), .val .null, .val .null, .val .null] []))
  refine Go.step (fun _ k => XS.aloadN X8.here hx rfl (hb hby d1_43) rfl rfl k) ?_
  show Go _ _ _ _ (T8.setTop (mkF m 44 #[.val (.ref x0), .val (.int x1), .val (.ref x2), .val (.int x3), .val (.int x4), .val (.int x5), .val .null, .val .null, .val .null] [(.ref x0)]))
  refine Go.step (fun _ k => XS.aload X8.here hx rfl (hb hby d1_44) rfl rfl k) ?_
  show Go _ _ _ _ (T8.setTop (mkF m 46 #[.val (.ref x0), .val (.int x1), .val (.ref x2), .val (.int x3), .val (.int x4), .val (.int x5), .val .null, .val .null, .val .null] [.null, (.ref x0)]))
  obtain ⟨T9, h9, X9, e9, W9, st9⟩ := putF X8 hx hZ hown (host := "") (Or.inl (hw _ (List.mem_of_getElem? (i := 28) rfl))) Via.refl e8 F8_body E_8 (Or.inr ⟨(hw _ (List.mem_of_getElem? (i := 29) rfl)), rfl, hnm⟩) (hw _ (List.mem_of_getElem? (i := 1) rfl)) (ty := (.array .byte)) (by decide) rfl rfl (g := (mkF m 46 #[.val (.ref x0), .val (.int x1), .val (.ref x2), .val (.int x3), .val (.int x4), .val (.int x5), .val .null, .val .null, .val .null] [.null, (.ref x0)])) rfl rfl (hb hby d1_46)
  have F9_flag := F8_flag.other W9 (Or.inr (slot_ne (Or.inr (hw _ (List.mem_of_getElem? (i := 23) rfl))) (Or.inr (hw _ (List.mem_of_getElem? (i := 29) rfl))) (by decide) (t := .int) (t' := (.array .byte)) (by decide) (by decide)))
  have F9_body := F8_body.same W9
  have E_9 := E_8.wr W9
  have NF9 := Fr.snoc X9 NF8 g0
  refine Go.step st9 ?_
  show Go _ _ _ _ (T9.setTop (mkF m 49 #[.val (.ref x0), .val (.int x1), .val (.ref x2), .val (.int x3), .val (.int x4), .val (.int x5), .val .null, .val .null, .val .null] []))
  exact leafV X9 hx hret hlk (hb hby d1_49) ⟨rfl, NF9, Nat.le_of_eq (by rw [e9, W9.size, W8.size, W7.size, W6.size, W5.size, W4.size, W3.size, W2.size]), by rw [e9]; exact E_9, by rw [e9]; exact F9_flag⟩ (by decide) (by decide)
theorem ef5 (m : MethodId) (x0 : Int32) : entryFrame m #[(.int x0), .null] 2 = mkF m 0 #[.val (.int x0), .val .null] [] := by first | (simp [entryFrame, mkF, argsToLocals, Value.category]; done) | rfl
set_option maxRecDepth 65536 in
set_option maxHeartbeats 40000000 in
theorem rm5 (l : Launch) (Z : State) (a0 : Array Value) (hw : ∀ d ∈ tables_1, d.before a0 Z = true) (ws : List Jvm.Cond) (x0 : Int32) (h0 : Heap) (n0 : Nat) (Z0 : n0 ≤ h0.size) : ConW l Z (⟨"com/example/topiq/topiq/remoting/RemotingCommand", "oneway", "(ILjava/util/Map;)Lcom/example/topiq/topiq/remoting/RemotingCommand;"⟩ : MethodName) prog_30_method_3_code 2 (some (.object "com/example/topiq/topiq/remoting/RemotingCommand")) ws ({ frames := 3, cells := 3, slots := 28, locals := 50 } : Room) #[(.int x0), .null] h0 (fun v h L => ∃ o : Addr, v = some (.ref o) ∧ Fr n0 L ∧ Exa Z h o "com/example/topiq/topiq/remoting/RemotingCommand" ∧ Fld Z h o "com/example/topiq/topiq/remoting/RemotingCommand" "flag" "I" (.int (2 : Int32))) := by
  refine ConW.of pn5 fun p e s m below meth c s₁ hZ hx hby hml hown hret hlk hnm X0 e0 es hS => ?_
  rw [ef5]
  have hws : ∀ a ∈ Bundle.stringAtoms, a.before a0 Z = true := (by intro d hd; simp only [Bundle.stringAtoms, List.mem_cons, List.not_mem_nil, or_false] at hd; rcases hd with rfl | rfl | rfl | rfl | rfl | rfl | rfl <;> first | exact hw _ (List.mem_of_getElem? (i := 40) rfl) | exact hw _ (List.mem_of_getElem? (i := 41) rfl) | exact hw _ (List.mem_of_getElem? (i := 42) rfl) | exact hw _ (List.mem_of_getElem? (i := 43) rfl) | exact hw _ (List.mem_of_getElem? (i := 44) rfl) | exact hw _ (List.mem_of_getElem? (i := 45) rfl) | exact hw _ (List.mem_of_getElem? (i := 46) rfl))
  show Go _ _ _ _ (s₁.setTop (mkF m 0 #[.val (.int x0), .val .null] []))
  obtain ⟨T1, h1, X1, e1, E1, A1, D1, -, st1⟩ := newO X0 hx hZ hown (hw _ (List.mem_of_getElem? (i := 38) rfl)) (hw _ (List.mem_of_getElem? (i := 1) rfl)) (hw _ (List.mem_of_getElem? (i := 2) rfl)) e0 (g := (mkF m 0 #[.val (.int x0), .val .null] [])) rfl (hb hby d5_0) (by decide) (by decide)
  obtain ⟨b1, g1⟩ : ∃ z, z = h0.size := ⟨_, rfl⟩
  rw [← g1] at A1 D1 st1
  have F1_code : Fld Z h1 b1 "com/example/topiq/topiq/remoting/RemotingCommand" "code" "I" (.int (0 : Int32)) := D1 (Or.inr (hw _ (List.mem_of_getElem? (i := 15) rfl))) (ty := .int) (by decide)
  have F1_language : Fld Z h1 b1 "com/example/topiq/topiq/remoting/RemotingCommand" "language" "Ljava/lang/String;" .null := D1 (Or.inr (hw _ (List.mem_of_getElem? (i := 17) rfl))) (ty := (.object "java/lang/String")) (by decide)
  have F1_version : Fld Z h1 b1 "com/example/topiq/topiq/remoting/RemotingCommand" "version" "I" (.int (0 : Int32)) := D1 (Or.inr (hw _ (List.mem_of_getElem? (i := 19) rfl))) (ty := .int) (by decide)
  have F1_opaque : Fld Z h1 b1 "com/example/topiq/topiq/remoting/RemotingCommand" "opaque" "I" (.int (0 : Int32)) := D1 (Or.inr (hw _ (List.mem_of_getElem? (i := 21) rfl))) (ty := .int) (by decide)
  have F1_flag : Fld Z h1 b1 "com/example/topiq/topiq/remoting/RemotingCommand" "flag" "I" (.int (0 : Int32)) := D1 (Or.inr (hw _ (List.mem_of_getElem? (i := 23) rfl))) (ty := .int) (by decide)
  have F1_remark : Fld Z h1 b1 "com/example/topiq/topiq/remoting/RemotingCommand" "remark" "Ljava/lang/String;" .null := D1 (Or.inr (hw _ (List.mem_of_getElem? (i := 25) rfl))) (ty := (.object "java/lang/String")) (by decide)
  have F1_extFields : Fld Z h1 b1 "com/example/topiq/topiq/remoting/RemotingCommand" "extFields" "Ljava/util/Map;" .null := D1 (Or.inr (hw _ (List.mem_of_getElem? (i := 27) rfl))) (ty := (.object "java/util/Map")) (by decide)
  have F1_body : Fld Z h1 b1 "com/example/topiq/topiq/remoting/RemotingCommand" "body" "[B" .null := D1 (Or.inr (hw _ (List.mem_of_getElem? (i := 29) rfl))) (ty := (.array .byte)) (by decide)
  refine Go.step st1 ?_
  have gb : n0 ≤ b1 := Nat.le_trans Z0 (Nat.le_of_eq g1.symm)
  show Go _ _ _ _ (T1.setTop (mkF m 3 #[.val (.int x0), .val .null] [(.ref b1)]))
  refine Go.step (fun _ k => XS.dup X1.here hx rfl (hb hby d5_3) rfl rfl k) ?_
  show Go _ _ _ _ (T1.setTop (mkF m 4 #[.val (.int x0), .val .null] [(.ref b1), (.ref b1)]))
  refine Go.step (fun _ k => XS.iloadN X1.here hx rfl (hb hby d5_4) rfl k) ?_
  show Go _ _ _ _ (T1.setTop (mkF m 5 #[.val (.int x0), .val .null] [(.int x0), (.ref b1), (.ref b1)]))
  obtain ⟨aS, TS, hSt, kS, XS_, eS, ES, hS, hkS, hZ, hown, stS⟩ := ldcS X1 hx hZ hown (hw _ (List.mem_of_getElem? (i := 39) rfl)) hws e1 hS E1.1 (g := (mkF m 5 #[.val (.int x0), .val .null] [(.int x0), (.ref b1), (.ref b1)])) rfl (hb hby d5_5) (n := 16) (by decide) (by decide) (by decide) (by decide)
  refine Go.step stS ?_
  show Go _ _ _ _ (TS.setTop (mkF m 7 #[.val (.int x0), .val .null] [(.ref aS), (.int x0), (.ref b1), (.ref b1)]))
  refine Go.step (fun _ k => XS.sipush XS_.here hx rfl (hb hby d5_7) k) ?_
  show Go _ _ _ _ (TS.setTop (mkF m 10 #[.val (.int x0), .val .null] [(.int (407 : Int32)), (.ref aS), (.int x0), (.ref b1), (.ref b1)]))
  refine Go.step (fun _ k => XS.iconst XS_.here hx rfl (hb hby d5_10) k) ?_
  show Go _ _ _ _ (TS.setTop (mkF m 11 #[.val (.int x0), .val .null] [(.int (0 : Int32)), (.int (407 : Int32)), (.ref aS), (.int x0), (.ref b1), (.ref b1)]))
  refine Go.step (fun _ k => XS.iconst XS_.here hx rfl (hb hby d5_11) k) ?_
  show Go _ _ _ _ (TS.setTop (mkF m 12 #[.val (.int x0), .val .null] [(.int (2 : Int32)), (.int (0 : Int32)), (.int (407 : Int32)), (.ref aS), (.int x0), (.ref b1), (.ref b1)]))
  refine Go.step (fun _ k => XS.aconstNull XS_.here hx rfl (hb hby d5_12) k) ?_
  show Go _ _ _ _ (TS.setTop (mkF m 13 #[.val (.int x0), .val .null] [.null, (.int (2 : Int32)), (.int (0 : Int32)), (.int (407 : Int32)), (.ref aS), (.int x0), (.ref b1), (.ref b1)]))
  refine Go.step (fun _ k => XS.aloadN XS_.here hx rfl (hb hby d5_13) rfl rfl k) ?_
  show Go _ _ _ _ (TS.setTop (mkF m 14 #[.val (.int x0), .val .null] [.null, .null, (.int (2 : Int32)), (.int (0 : Int32)), (.int (407 : Int32)), (.ref aS), (.int x0), (.ref b1), (.ref b1)]))
  refine Go.step (fun _ k => XS.aconstNull XS_.here hx rfl (hb hby d5_14) k) ?_
  show Go _ _ _ _ (TS.setTop (mkF m 15 #[.val (.int x0), .val .null] [.null, .null, .null, (.int (2 : Int32)), (.int (0 : Int32)), (.int (407 : Int32)), (.ref aS), (.int x0), (.ref b1), (.ref b1)]))
  refine goI XS_ hx hZ rfl hown (hw _ (List.mem_of_getElem? (i := 47) rfl)) (hw _ (List.mem_of_getElem? (i := 4) rfl)) (hw _ (List.mem_of_getElem? (i := 2) rfl)) (hw _ (List.mem_of_getElem? (i := 5) rfl)) (by decide) (rcr l Z a0 hw [] b1 x0 aS (407 : Int32) (0 : Int32) (2 : Int32) hSt n0 gb (A1.ext ES) (F1_code.ext ES) (F1_language.ext ES) (F1_version.ext ES) (F1_opaque.ext ES) (F1_flag.ext ES) (F1_remark.ext ES) (F1_extFields.ext ES) (F1_body.ext ES)) eS (by rw [hml]; rfl) b1 [(.int x0), (.ref aS), (.int (407 : Int32)), (.int (0 : Int32)), (.int (2 : Int32)), .null, .null, .null] [(.ref b1)] rfl pd1 rfl rfl 1 rfl (hb hby d5_15) (by decide) (by decide) (by decide) (by decide) fun T2 L2 v2 q2 X2 => ?_
  obtain ⟨rfl, N2, K2, EX2, FL2⟩ := q2
  show Go _ _ _ _ (T2.setTop (mkF m 18 #[.val (.int x0), .val .null] [(.ref b1)]))
  exact leafAW X2 hS (Nat.le_trans hkS K2) hx hret rfl hlk rfl rfl (hb hby d5_18) ⟨_, rfl, N2, EX2, FL2⟩ (by decide) (by decide)
theorem ef6 (m : MethodId) (x0 : Int32) : entryFrame m #[(.int x0), .null, .null] 3 = mkF m 0 #[.val (.int x0), .val .null, .val .null] [] := by first | (simp [entryFrame, mkF, argsToLocals, Value.category]; done) | rfl
set_option maxRecDepth 65536 in
set_option maxHeartbeats 40000000 in
theorem rm6 (l : Launch) (Z : State) (a0 : Array Value) (hw : ∀ d ∈ tables_1, d.before a0 Z = true) (ws : List Jvm.Cond) (x0 : Int32) (h0 : Heap) (n0 : Nat) (Z0 : n0 ≤ h0.size) : ConW l Z (⟨"com/example/topiq/topiq/remoting/RemotingCommand", "request", "(ILjava/util/Map;[B)Lcom/example/topiq/topiq/remoting/RemotingCommand;"⟩ : MethodName) prog_30_method_2_code 3 (some (.object "com/example/topiq/topiq/remoting/RemotingCommand")) ws ({ frames := 3, cells := 3, slots := 28, locals := 50 } : Room) #[(.int x0), .null, .null] h0 (fun v h L => ∃ o : Addr, v = some (.ref o) ∧ Fr n0 L ∧ Exa Z h o "com/example/topiq/topiq/remoting/RemotingCommand" ∧ Fld Z h o "com/example/topiq/topiq/remoting/RemotingCommand" "flag" "I" (.int (0 : Int32))) := by
  refine ConW.of pn6 fun p e s m below meth c s₁ hZ hx hby hml hown hret hlk hnm X0 e0 es hS => ?_
  rw [ef6]
  have hws : ∀ a ∈ Bundle.stringAtoms, a.before a0 Z = true := (by intro d hd; simp only [Bundle.stringAtoms, List.mem_cons, List.not_mem_nil, or_false] at hd; rcases hd with rfl | rfl | rfl | rfl | rfl | rfl | rfl <;> first | exact hw _ (List.mem_of_getElem? (i := 40) rfl) | exact hw _ (List.mem_of_getElem? (i := 41) rfl) | exact hw _ (List.mem_of_getElem? (i := 42) rfl) | exact hw _ (List.mem_of_getElem? (i := 43) rfl) | exact hw _ (List.mem_of_getElem? (i := 44) rfl) | exact hw _ (List.mem_of_getElem? (i := 45) rfl) | exact hw _ (List.mem_of_getElem? (i := 46) rfl))
  show Go _ _ _ _ (s₁.setTop (mkF m 0 #[.val (.int x0), .val .null, .val .null] []))
  obtain ⟨T1, h1, X1, e1, E1, A1, D1, -, st1⟩ := newO X0 hx hZ hown (hw _ (List.mem_of_getElem? (i := 38) rfl)) (hw _ (List.mem_of_getElem? (i := 1) rfl)) (hw _ (List.mem_of_getElem? (i := 2) rfl)) e0 (g := (mkF m 0 #[.val (.int x0), .val .null, .val .null] [])) rfl (hb hby d6_0) (by decide) (by decide)
  obtain ⟨b1, g1⟩ : ∃ z, z = h0.size := ⟨_, rfl⟩
  rw [← g1] at A1 D1 st1
  have F1_code : Fld Z h1 b1 "com/example/topiq/topiq/remoting/RemotingCommand" "code" "I" (.int (0 : Int32)) := D1 (Or.inr (hw _ (List.mem_of_getElem? (i := 15) rfl))) (ty := .int) (by decide)
  have F1_language : Fld Z h1 b1 "com/example/topiq/topiq/remoting/RemotingCommand" "language" "Ljava/lang/String;" .null := D1 (Or.inr (hw _ (List.mem_of_getElem? (i := 17) rfl))) (ty := (.object "java/lang/String")) (by decide)
  have F1_version : Fld Z h1 b1 "com/example/topiq/topiq/remoting/RemotingCommand" "version" "I" (.int (0 : Int32)) := D1 (Or.inr (hw _ (List.mem_of_getElem? (i := 19) rfl))) (ty := .int) (by decide)
  have F1_opaque : Fld Z h1 b1 "com/example/topiq/topiq/remoting/RemotingCommand" "opaque" "I" (.int (0 : Int32)) := D1 (Or.inr (hw _ (List.mem_of_getElem? (i := 21) rfl))) (ty := .int) (by decide)
  have F1_flag : Fld Z h1 b1 "com/example/topiq/topiq/remoting/RemotingCommand" "flag" "I" (.int (0 : Int32)) := D1 (Or.inr (hw _ (List.mem_of_getElem? (i := 23) rfl))) (ty := .int) (by decide)
  have F1_remark : Fld Z h1 b1 "com/example/topiq/topiq/remoting/RemotingCommand" "remark" "Ljava/lang/String;" .null := D1 (Or.inr (hw _ (List.mem_of_getElem? (i := 25) rfl))) (ty := (.object "java/lang/String")) (by decide)
  have F1_extFields : Fld Z h1 b1 "com/example/topiq/topiq/remoting/RemotingCommand" "extFields" "Ljava/util/Map;" .null := D1 (Or.inr (hw _ (List.mem_of_getElem? (i := 27) rfl))) (ty := (.object "java/util/Map")) (by decide)
  have F1_body : Fld Z h1 b1 "com/example/topiq/topiq/remoting/RemotingCommand" "body" "[B" .null := D1 (Or.inr (hw _ (List.mem_of_getElem? (i := 29) rfl))) (ty := (.array .byte)) (by decide)
  refine Go.step st1 ?_
  have gb : n0 ≤ b1 := Nat.le_trans Z0 (Nat.le_of_eq g1.symm)
  show Go _ _ _ _ (T1.setTop (mkF m 3 #[.val (.int x0), .val .null, .val .null] [(.ref b1)]))
  refine Go.step (fun _ k => XS.dup X1.here hx rfl (hb hby d6_3) rfl rfl k) ?_
  show Go _ _ _ _ (T1.setTop (mkF m 4 #[.val (.int x0), .val .null, .val .null] [(.ref b1), (.ref b1)]))
  refine Go.step (fun _ k => XS.iloadN X1.here hx rfl (hb hby d6_4) rfl k) ?_
  show Go _ _ _ _ (T1.setTop (mkF m 5 #[.val (.int x0), .val .null, .val .null] [(.int x0), (.ref b1), (.ref b1)]))
  obtain ⟨aS, TS, hSt, kS, XS_, eS, ES, hS, hkS, hZ, hown, stS⟩ := ldcS X1 hx hZ hown (hw _ (List.mem_of_getElem? (i := 39) rfl)) hws e1 hS E1.1 (g := (mkF m 5 #[.val (.int x0), .val .null, .val .null] [(.int x0), (.ref b1), (.ref b1)])) rfl (hb hby d6_5) (n := 16) (by decide) (by decide) (by decide) (by decide)
  refine Go.step stS ?_
  show Go _ _ _ _ (TS.setTop (mkF m 7 #[.val (.int x0), .val .null, .val .null] [(.ref aS), (.int x0), (.ref b1), (.ref b1)]))
  refine Go.step (fun _ k => XS.sipush XS_.here hx rfl (hb hby d6_7) k) ?_
  show Go _ _ _ _ (TS.setTop (mkF m 10 #[.val (.int x0), .val .null, .val .null] [(.int (407 : Int32)), (.ref aS), (.int x0), (.ref b1), (.ref b1)]))
  refine Go.step (fun _ k => XS.iconst XS_.here hx rfl (hb hby d6_10) k) ?_
  show Go _ _ _ _ (TS.setTop (mkF m 11 #[.val (.int x0), .val .null, .val .null] [(.int (0 : Int32)), (.int (407 : Int32)), (.ref aS), (.int x0), (.ref b1), (.ref b1)]))
  refine Go.step (fun _ k => XS.iconst XS_.here hx rfl (hb hby d6_11) k) ?_
  show Go _ _ _ _ (TS.setTop (mkF m 12 #[.val (.int x0), .val .null, .val .null] [(.int (0 : Int32)), (.int (0 : Int32)), (.int (407 : Int32)), (.ref aS), (.int x0), (.ref b1), (.ref b1)]))
  refine Go.step (fun _ k => XS.aconstNull XS_.here hx rfl (hb hby d6_12) k) ?_
  show Go _ _ _ _ (TS.setTop (mkF m 13 #[.val (.int x0), .val .null, .val .null] [.null, (.int (0 : Int32)), (.int (0 : Int32)), (.int (407 : Int32)), (.ref aS), (.int x0), (.ref b1), (.ref b1)]))
  refine Go.step (fun _ k => XS.aloadN XS_.here hx rfl (hb hby d6_13) rfl rfl k) ?_
  show Go _ _ _ _ (TS.setTop (mkF m 14 #[.val (.int x0), .val .null, .val .null] [.null, .null, (.int (0 : Int32)), (.int (0 : Int32)), (.int (407 : Int32)), (.ref aS), (.int x0), (.ref b1), (.ref b1)]))
  refine Go.step (fun _ k => XS.aloadN XS_.here hx rfl (hb hby d6_14) rfl rfl k) ?_
  show Go _ _ _ _ (TS.setTop (mkF m 15 #[.val (.int x0), .val .null, .val .null] [.null, .null, .null, (.int (0 : Int32)), (.int (0 : Int32)), (.int (407 : Int32)), (.ref aS), (.int x0), (.ref b1), (.ref b1)]))
  refine goI XS_ hx hZ rfl hown (hw _ (List.mem_of_getElem? (i := 47) rfl)) (hw _ (List.mem_of_getElem? (i := 4) rfl)) (hw _ (List.mem_of_getElem? (i := 2) rfl)) (hw _ (List.mem_of_getElem? (i := 5) rfl)) (by decide) (rcr l Z a0 hw [] b1 x0 aS (407 : Int32) (0 : Int32) (0 : Int32) hSt n0 gb (A1.ext ES) (F1_code.ext ES) (F1_language.ext ES) (F1_version.ext ES) (F1_opaque.ext ES) (F1_flag.ext ES) (F1_remark.ext ES) (F1_extFields.ext ES) (F1_body.ext ES)) eS (by rw [hml]; rfl) b1 [(.int x0), (.ref aS), (.int (407 : Int32)), (.int (0 : Int32)), (.int (0 : Int32)), .null, .null, .null] [(.ref b1)] rfl pd1 rfl rfl 1 rfl (hb hby d6_15) (by decide) (by decide) (by decide) (by decide) fun T2 L2 v2 q2 X2 => ?_
  obtain ⟨rfl, N2, K2, EX2, FL2⟩ := q2
  show Go _ _ _ _ (T2.setTop (mkF m 18 #[.val (.int x0), .val .null, .val .null] [(.ref b1)]))
  exact leafAW X2 hS (Nat.le_trans hkS K2) hx hret rfl hlk rfl rfl (hb hby d6_18) ⟨_, rfl, N2, EX2, FL2⟩ (by decide) (by decide)
theorem ef7 (m : MethodId) (x0 : Int32) : entryFrame m #[(.int x0), .null, .null, .null] 4 = mkF m 0 #[.val (.int x0), .val .null, .val .null, .val .null] [] := by first | (simp [entryFrame, mkF, argsToLocals, Value.category]; done) | rfl
set_option maxRecDepth 65536 in
set_option maxHeartbeats 40000000 in
theorem rm7 (l : Launch) (Z : State) (a0 : Array Value) (hw : ∀ d ∈ tables_1, d.before a0 Z = true) (ws : List Jvm.Cond) (x0 : Int32) (h0 : Heap) (n0 : Nat) (Z0 : n0 ≤ h0.size) : ConW l Z (⟨"com/example/topiq/topiq/remoting/RemotingCommand", "response", "(ILjava/lang/String;Ljava/util/Map;[B)Lcom/example/topiq/topiq/remoting/RemotingCommand;"⟩ : MethodName) prog_30_method_4_code 4 (some (.object "com/example/topiq/topiq/remoting/RemotingCommand")) ws ({ frames := 3, cells := 3, slots := 28, locals := 50 } : Room) #[(.int x0), .null, .null, .null] h0 (fun v h L => ∃ o : Addr, v = some (.ref o) ∧ Fr n0 L ∧ Exa Z h o "com/example/topiq/topiq/remoting/RemotingCommand" ∧ Fld Z h o "com/example/topiq/topiq/remoting/RemotingCommand" "flag" "I" (.int (1 : Int32))) := by
  refine ConW.of pn7 fun p e s m below meth c s₁ hZ hx hby hml hown hret hlk hnm X0 e0 es hS => ?_
  rw [ef7]
  have hws : ∀ a ∈ Bundle.stringAtoms, a.before a0 Z = true := (by intro d hd; simp only [Bundle.stringAtoms, List.mem_cons, List.not_mem_nil, or_false] at hd; rcases hd with rfl | rfl | rfl | rfl | rfl | rfl | rfl <;> first | exact hw _ (List.mem_of_getElem? (i := 40) rfl) | exact hw _ (List.mem_of_getElem? (i := 41) rfl) | exact hw _ (List.mem_of_getElem? (i := 42) rfl) | exact hw _ (List.mem_of_getElem? (i := 43) rfl) | exact hw _ (List.mem_of_getElem? (i := 44) rfl) | exact hw _ (List.mem_of_getElem? (i := 45) rfl) | exact hw _ (List.mem_of_getElem? (i := 46) rfl))
  show Go _ _ _ _ (s₁.setTop (mkF m 0 #[.val (.int x0), .val .null, .val .null, .val .null] []))
  obtain ⟨T1, h1, X1, e1, E1, A1, D1, -, st1⟩ := newO X0 hx hZ hown (hw _ (List.mem_of_getElem? (i := 38) rfl)) (hw _ (List.mem_of_getElem? (i := 1) rfl)) (hw _ (List.mem_of_getElem? (i := 2) rfl)) e0 (g := (mkF m 0 #[.val (.int x0), .val .null, .val .null, .val .null] [])) rfl (hb hby d7_0) (by decide) (by decide)
  obtain ⟨b1, g1⟩ : ∃ z, z = h0.size := ⟨_, rfl⟩
  rw [← g1] at A1 D1 st1
  have F1_code : Fld Z h1 b1 "com/example/topiq/topiq/remoting/RemotingCommand" "code" "I" (.int (0 : Int32)) := D1 (Or.inr (hw _ (List.mem_of_getElem? (i := 15) rfl))) (ty := .int) (by decide)
  have F1_language : Fld Z h1 b1 "com/example/topiq/topiq/remoting/RemotingCommand" "language" "Ljava/lang/String;" .null := D1 (Or.inr (hw _ (List.mem_of_getElem? (i := 17) rfl))) (ty := (.object "java/lang/String")) (by decide)
  have F1_version : Fld Z h1 b1 "com/example/topiq/topiq/remoting/RemotingCommand" "version" "I" (.int (0 : Int32)) := D1 (Or.inr (hw _ (List.mem_of_getElem? (i := 19) rfl))) (ty := .int) (by decide)
  have F1_opaque : Fld Z h1 b1 "com/example/topiq/topiq/remoting/RemotingCommand" "opaque" "I" (.int (0 : Int32)) := D1 (Or.inr (hw _ (List.mem_of_getElem? (i := 21) rfl))) (ty := .int) (by decide)
  have F1_flag : Fld Z h1 b1 "com/example/topiq/topiq/remoting/RemotingCommand" "flag" "I" (.int (0 : Int32)) := D1 (Or.inr (hw _ (List.mem_of_getElem? (i := 23) rfl))) (ty := .int) (by decide)
  have F1_remark : Fld Z h1 b1 "com/example/topiq/topiq/remoting/RemotingCommand" "remark" "Ljava/lang/String;" .null := D1 (Or.inr (hw _ (List.mem_of_getElem? (i := 25) rfl))) (ty := (.object "java/lang/String")) (by decide)
  have F1_extFields : Fld Z h1 b1 "com/example/topiq/topiq/remoting/RemotingCommand" "extFields" "Ljava/util/Map;" .null := D1 (Or.inr (hw _ (List.mem_of_getElem? (i := 27) rfl))) (ty := (.object "java/util/Map")) (by decide)
  have F1_body : Fld Z h1 b1 "com/example/topiq/topiq/remoting/RemotingCommand" "body" "[B" .null := D1 (Or.inr (hw _ (List.mem_of_getElem? (i := 29) rfl))) (ty := (.array .byte)) (by decide)
  refine Go.step st1 ?_
  have gb : n0 ≤ b1 := Nat.le_trans Z0 (Nat.le_of_eq g1.symm)
  show Go _ _ _ _ (T1.setTop (mkF m 3 #[.val (.int x0), .val .null, .val .null, .val .null] [(.ref b1)]))
  refine Go.step (fun _ k => XS.dup X1.here hx rfl (hb hby d7_3) rfl rfl k) ?_
  show Go _ _ _ _ (T1.setTop (mkF m 4 #[.val (.int x0), .val .null, .val .null, .val .null] [(.ref b1), (.ref b1)]))
  refine Go.step (fun _ k => XS.iloadN X1.here hx rfl (hb hby d7_4) rfl k) ?_
  show Go _ _ _ _ (T1.setTop (mkF m 5 #[.val (.int x0), .val .null, .val .null, .val .null] [(.int x0), (.ref b1), (.ref b1)]))
  obtain ⟨aS, TS, hSt, kS, XS_, eS, ES, hS, hkS, hZ, hown, stS⟩ := ldcS X1 hx hZ hown (hw _ (List.mem_of_getElem? (i := 39) rfl)) hws e1 hS E1.1 (g := (mkF m 5 #[.val (.int x0), .val .null, .val .null, .val .null] [(.int x0), (.ref b1), (.ref b1)])) rfl (hb hby d7_5) (n := 16) (by decide) (by decide) (by decide) (by decide)
  refine Go.step stS ?_
  show Go _ _ _ _ (TS.setTop (mkF m 7 #[.val (.int x0), .val .null, .val .null, .val .null] [(.ref aS), (.int x0), (.ref b1), (.ref b1)]))
  refine Go.step (fun _ k => XS.sipush XS_.here hx rfl (hb hby d7_7) k) ?_
  show Go _ _ _ _ (TS.setTop (mkF m 10 #[.val (.int x0), .val .null, .val .null, .val .null] [(.int (407 : Int32)), (.ref aS), (.int x0), (.ref b1), (.ref b1)]))
  refine Go.step (fun _ k => XS.iconst XS_.here hx rfl (hb hby d7_10) k) ?_
  show Go _ _ _ _ (TS.setTop (mkF m 11 #[.val (.int x0), .val .null, .val .null, .val .null] [(.int (0 : Int32)), (.int (407 : Int32)), (.ref aS), (.int x0), (.ref b1), (.ref b1)]))
  refine Go.step (fun _ k => XS.iconst XS_.here hx rfl (hb hby d7_11) k) ?_
  show Go _ _ _ _ (TS.setTop (mkF m 12 #[.val (.int x0), .val .null, .val .null, .val .null] [(.int (1 : Int32)), (.int (0 : Int32)), (.int (407 : Int32)), (.ref aS), (.int x0), (.ref b1), (.ref b1)]))
  refine Go.step (fun _ k => XS.aloadN XS_.here hx rfl (hb hby d7_12) rfl rfl k) ?_
  show Go _ _ _ _ (TS.setTop (mkF m 13 #[.val (.int x0), .val .null, .val .null, .val .null] [.null, (.int (1 : Int32)), (.int (0 : Int32)), (.int (407 : Int32)), (.ref aS), (.int x0), (.ref b1), (.ref b1)]))
  refine Go.step (fun _ k => XS.aloadN XS_.here hx rfl (hb hby d7_13) rfl rfl k) ?_
  show Go _ _ _ _ (TS.setTop (mkF m 14 #[.val (.int x0), .val .null, .val .null, .val .null] [.null, .null, (.int (1 : Int32)), (.int (0 : Int32)), (.int (407 : Int32)), (.ref aS), (.int x0), (.ref b1), (.ref b1)]))
  refine Go.step (fun _ k => XS.aloadN XS_.here hx rfl (hb hby d7_14) rfl rfl k) ?_
  show Go _ _ _ _ (TS.setTop (mkF m 15 #[.val (.int x0), .val .null, .val .null, .val .null] [.null, .null, .null, (.int (1 : Int32)), (.int (0 : Int32)), (.int (407 : Int32)), (.ref aS), (.int x0), (.ref b1), (.ref b1)]))
  refine goI XS_ hx hZ rfl hown (hw _ (List.mem_of_getElem? (i := 47) rfl)) (hw _ (List.mem_of_getElem? (i := 4) rfl)) (hw _ (List.mem_of_getElem? (i := 2) rfl)) (hw _ (List.mem_of_getElem? (i := 5) rfl)) (by decide) (rcr l Z a0 hw [] b1 x0 aS (407 : Int32) (0 : Int32) (1 : Int32) hSt n0 gb (A1.ext ES) (F1_code.ext ES) (F1_language.ext ES) (F1_version.ext ES) (F1_opaque.ext ES) (F1_flag.ext ES) (F1_remark.ext ES) (F1_extFields.ext ES) (F1_body.ext ES)) eS (by rw [hml]; rfl) b1 [(.int x0), (.ref aS), (.int (407 : Int32)), (.int (0 : Int32)), (.int (1 : Int32)), .null, .null, .null] [(.ref b1)] rfl pd1 rfl rfl 1 rfl (hb hby d7_15) (by decide) (by decide) (by decide) (by decide) fun T2 L2 v2 q2 X2 => ?_
  obtain ⟨rfl, N2, K2, EX2, FL2⟩ := q2
  show Go _ _ _ _ (T2.setTop (mkF m 18 #[.val (.int x0), .val .null, .val .null, .val .null] [(.ref b1)]))
  exact leafAW X2 hS (Nat.le_trans hkS K2) hx hret rfl hlk rfl rfl (hb hby d7_18) ⟨_, rfl, N2, EX2, FL2⟩ (by decide) (by decide)
theorem pn0 : plainFor x = true := plainFor_of_name (by first | (simp [plainName, overriddenIn, x]; done) | decide +kernel)
theorem ef0 (m : MethodId) (x0 : Int32) (x1 : Int32) (x2 : Int32) (x3 : Int32) : entryFrame m #[(.int x0), (.int x1), (.int x2), (.int x3)] maxLocals = mkF m 0 #[.val (.int x0), .val (.int x1), .val (.int x2), .val (.int x3), .unset, .unset] [] := by first | (simp [entryFrame, mkF, argsToLocals, Value.category, maxLocals]; done) | rfl
set_option maxRecDepth 65536 in
set_option maxHeartbeats 40000000 in
theorem rm0 (l : Launch) (Z : State) (a0 : Array Value) (hw : ∀ d ∈ tables_1, d.before a0 Z = true) (ws : List Jvm.Cond) (x0 : Int32) (x1 : Int32) (x2 : Int32) (x3 : Int32) (h0 : Heap) : ConW l Z x code maxLocals ret ws room_1 #[(.int x0), (.int x1), (.int x2), (.int x3)] h0 (fun v h L => v = some (.int 1) ∧ Fr h0.size L) := by
  refine ConW.of pn0 fun p e s m below meth c s₁ hZ hx hby hml hown hret hlk hnm X0 e0 es hS => ?_
  rw [ef0]
  show Go _ _ _ _ (s₁.setTop (mkF m 0 #[.val (.int x0), .val (.int x1), .val (.int x2), .val (.int x3), .unset, .unset] []))
  obtain ⟨T1, h1, X1, e1, E1, A1, D1, -, st1⟩ := newO X0 hx hZ hown (hw _ (List.mem_of_getElem? (i := 0) rfl)) (hw _ (List.mem_of_getElem? (i := 1) rfl)) (hw _ (List.mem_of_getElem? (i := 2) rfl)) e0 (g := (mkF m 0 #[.val (.int x0), .val (.int x1), .val (.int x2), .val (.int x3), .unset, .unset] [])) rfl (hb hby at_0) (by decide) (by decide)
  obtain ⟨b1, g1⟩ : ∃ z, z = h0.size := ⟨_, rfl⟩
  rw [← g1] at A1 D1 st1
  have F1_code : Fld Z h1 b1 "com/example/topiq/topiq/remoting/RemotingCommand" "code" "I" (.int (0 : Int32)) := D1 (Or.inr (hw _ (List.mem_of_getElem? (i := 15) rfl))) (ty := .int) (by decide)
  have F1_language : Fld Z h1 b1 "com/example/topiq/topiq/remoting/RemotingCommand" "language" "Ljava/lang/String;" .null := D1 (Or.inr (hw _ (List.mem_of_getElem? (i := 17) rfl))) (ty := (.object "java/lang/String")) (by decide)
  have F1_version : Fld Z h1 b1 "com/example/topiq/topiq/remoting/RemotingCommand" "version" "I" (.int (0 : Int32)) := D1 (Or.inr (hw _ (List.mem_of_getElem? (i := 19) rfl))) (ty := .int) (by decide)
  have F1_opaque : Fld Z h1 b1 "com/example/topiq/topiq/remoting/RemotingCommand" "opaque" "I" (.int (0 : Int32)) := D1 (Or.inr (hw _ (List.mem_of_getElem? (i := 21) rfl))) (ty := .int) (by decide)
  have F1_flag : Fld Z h1 b1 "com/example/topiq/topiq/remoting/RemotingCommand" "flag" "I" (.int (0 : Int32)) := D1 (Or.inr (hw _ (List.mem_of_getElem? (i := 23) rfl))) (ty := .int) (by decide)
  have F1_remark : Fld Z h1 b1 "com/example/topiq/topiq/remoting/RemotingCommand" "remark" "Ljava/lang/String;" .null := D1 (Or.inr (hw _ (List.mem_of_getElem? (i := 25) rfl))) (ty := (.object "java/lang/String")) (by decide)
  have F1_extFields : Fld Z h1 b1 "com/example/topiq/topiq/remoting/RemotingCommand" "extFields" "Ljava/util/Map;" .null := D1 (Or.inr (hw _ (List.mem_of_getElem? (i := 27) rfl))) (ty := (.object "java/util/Map")) (by decide)
  have F1_body : Fld Z h1 b1 "com/example/topiq/topiq/remoting/RemotingCommand" "body" "[B" .null := D1 (Or.inr (hw _ (List.mem_of_getElem? (i := 29) rfl))) (ty := (.array .byte)) (by decide)
  refine Go.step st1 ?_
  have gb : h0.size ≤ b1 := Nat.le_of_eq g1.symm
  show Go _ _ _ _ (T1.setTop (mkF m 3 #[.val (.int x0), .val (.int x1), .val (.int x2), .val (.int x3), .unset, .unset] [(.ref b1)]))
  refine Go.step (fun _ k => XS.dup X1.here hx rfl (hb hby at_3) rfl rfl k) ?_
  show Go _ _ _ _ (T1.setTop (mkF m 4 #[.val (.int x0), .val (.int x1), .val (.int x2), .val (.int x3), .unset, .unset] [(.ref b1), (.ref b1)]))
  refine Go.step (fun _ k => XS.iloadN X1.here hx rfl (hb hby at_4) rfl k) ?_
  show Go _ _ _ _ (T1.setTop (mkF m 5 #[.val (.int x0), .val (.int x1), .val (.int x2), .val (.int x3), .unset, .unset] [(.int x0), (.ref b1), (.ref b1)]))
  refine Go.step (fun _ k => XS.aconstNull X1.here hx rfl (hb hby at_5) k) ?_
  show Go _ _ _ _ (T1.setTop (mkF m 6 #[.val (.int x0), .val (.int x1), .val (.int x2), .val (.int x3), .unset, .unset] [.null, (.int x0), (.ref b1), (.ref b1)]))
  refine Go.step (fun _ k => XS.iloadN X1.here hx rfl (hb hby at_6) rfl k) ?_
  show Go _ _ _ _ (T1.setTop (mkF m 7 #[.val (.int x0), .val (.int x1), .val (.int x2), .val (.int x3), .unset, .unset] [(.int x1), .null, (.int x0), (.ref b1), (.ref b1)]))
  refine Go.step (fun _ k => XS.iloadN X1.here hx rfl (hb hby at_7) rfl k) ?_
  show Go _ _ _ _ (T1.setTop (mkF m 8 #[.val (.int x0), .val (.int x1), .val (.int x2), .val (.int x3), .unset, .unset] [(.int x2), (.int x1), .null, (.int x0), (.ref b1), (.ref b1)]))
  refine Go.step (fun _ k => XS.iloadN X1.here hx rfl (hb hby at_8) rfl k) ?_
  show Go _ _ _ _ (T1.setTop (mkF m 9 #[.val (.int x0), .val (.int x1), .val (.int x2), .val (.int x3), .unset, .unset] [(.int x3), (.int x2), (.int x1), .null, (.int x0), (.ref b1), (.ref b1)]))
  refine Go.step (fun _ k => XS.aconstNull X1.here hx rfl (hb hby at_9) k) ?_
  show Go _ _ _ _ (T1.setTop (mkF m 10 #[.val (.int x0), .val (.int x1), .val (.int x2), .val (.int x3), .unset, .unset] [.null, (.int x3), (.int x2), (.int x1), .null, (.int x0), (.ref b1), (.ref b1)]))
  refine Go.step (fun _ k => XS.aconstNull X1.here hx rfl (hb hby at_10) k) ?_
  show Go _ _ _ _ (T1.setTop (mkF m 11 #[.val (.int x0), .val (.int x1), .val (.int x2), .val (.int x3), .unset, .unset] [.null, .null, (.int x3), (.int x2), (.int x1), .null, (.int x0), (.ref b1), (.ref b1)]))
  refine Go.step (fun _ k => XS.aconstNull X1.here hx rfl (hb hby at_11) k) ?_
  show Go _ _ _ _ (T1.setTop (mkF m 12 #[.val (.int x0), .val (.int x1), .val (.int x2), .val (.int x3), .unset, .unset] [.null, .null, .null, (.int x3), (.int x2), (.int x1), .null, (.int x0), (.ref b1), (.ref b1)]))
  refine goI X1 hx hZ rfl hown (hw _ (List.mem_of_getElem? (i := 3) rfl)) (hw _ (List.mem_of_getElem? (i := 4) rfl)) (hw _ (List.mem_of_getElem? (i := 2) rfl)) (hw _ (List.mem_of_getElem? (i := 5) rfl)) (by decide) (rcn l Z a0 hw [] b1 x0 x1 x2 x3 h1 h0.size gb A1 F1_code F1_language F1_version F1_opaque F1_flag F1_remark F1_extFields F1_body) e1 (by rw [hml]; rfl) b1 [(.int x0), .null, (.int x1), (.int x2), (.int x3), .null, .null, .null] [(.ref b1)] rfl pd1 rfl rfl 1 rfl (hb hby at_12) (by decide) (by decide) (by decide) (by decide) fun T2 L2 v2 q2 X2 => ?_
  obtain ⟨rfl, N2, K2, EX2, FL2⟩ := q2
  show Go _ _ _ _ (T2.setTop (mkF m 15 #[.val (.int x0), .val (.int x1), .val (.int x2), .val (.int x3), .unset, .unset] [(.ref b1)]))
  refine Go.step (fun _ k => XS.astore X2.here hx rfl (hb hby at_15) rfl rfl (l' := #[.val (.int x0), .val (.int x1), .val (.int x2), .val (.int x3), .val (.ref b1), .unset]) rfl k) ?_
  show Go _ _ _ _ (T2.setTop (mkF m 17 #[.val (.int x0), .val (.int x1), .val (.int x2), .val (.int x3), .val (.ref b1), .unset] []))
  refine Go.step (fun _ k => XS.iloadN X2.here hx rfl (hb hby at_17) rfl k) ?_
  show Go _ _ _ _ (T2.setTop (mkF m 18 #[.val (.int x0), .val (.int x1), .val (.int x2), .val (.int x3), .val (.ref b1), .unset] [(.int x3)]))
  refine Go.step (fun _ k => XS.iconst X2.here hx rfl (hb hby at_18) k) ?_
  show Go _ _ _ _ (T2.setTop (mkF m 19 #[.val (.int x0), .val (.int x1), .val (.int x2), .val (.int x3), .val (.ref b1), .unset] [(.int (1 : Int32)), (.int x3)]))
  refine Go.step (fun _ k => XS.iushr X2.here hx rfl (hb hby at_19) rfl k) ?_
  show Go _ _ _ _ (T2.setTop (mkF m 20 #[.val (.int x0), .val (.int x1), .val (.int x2), .val (.int x3), .val (.ref b1), .unset] [(.int ((x3.toUInt32 >>> ((1 : Int32) &&& 31).toUInt32).toInt32))]))
  refine Go.step (fun _ k => XS.iconst X2.here hx rfl (hb hby at_20) k) ?_
  show Go _ _ _ _ (T2.setTop (mkF m 21 #[.val (.int x0), .val (.int x1), .val (.int x2), .val (.int x3), .val (.ref b1), .unset] [(.int (1 : Int32)), (.int ((x3.toUInt32 >>> ((1 : Int32) &&& 31).toUInt32).toInt32))]))
  refine Go.step (fun _ k => XS.iand X2.here hx rfl (hb hby at_21) rfl k) ?_
  show Go _ _ _ _ (T2.setTop (mkF m 22 #[.val (.int x0), .val (.int x1), .val (.int x2), .val (.int x3), .val (.ref b1), .unset] [(.int (((x3.toUInt32 >>> ((1 : Int32) &&& 31).toUInt32).toInt32) &&& (1 : Int32)))]))
  refine Go.step (fun _ k => XS.iconst X2.here hx rfl (hb hby at_22) k) ?_
  show Go _ _ _ _ (T2.setTop (mkF m 23 #[.val (.int x0), .val (.int x1), .val (.int x2), .val (.int x3), .val (.ref b1), .unset] [(.int (1 : Int32)), (.int (((x3.toUInt32 >>> ((1 : Int32) &&& 31).toUInt32).toInt32) &&& (1 : Int32)))]))
  by_cases hc3 : (((x3.toUInt32 >>> ((1 : Int32) &&& 31).toUInt32).toInt32) &&& (1 : Int32)) = (1 : Int32)
  · refine Go.step (fun _ k => XS.icmpNo X2.here hx rfl (hb hby at_23) rfl (teq hc3).2 k) ?_
    show Go _ _ _ _ (T2.setTop (mkF m 26 #[.val (.int x0), .val (.int x1), .val (.int x2), .val (.int x3), .val (.ref b1), .unset] []))
    refine Go.step (fun _ k => XS.iconst X2.here hx rfl (hb hby at_26) k) ?_
    show Go _ _ _ _ (T2.setTop (mkF m 27 #[.val (.int x0), .val (.int x1), .val (.int x2), .val (.int x3), .val (.ref b1), .unset] [(.int (1 : Int32))]))
    refine Go.step (fun _ k => XS.goto X2.here hx rfl (pc0 := 27) (pc' := 31) rfl (hb hby at_27) (by decide) (by decide) k) ?_
    show Go _ _ _ _ (T2.setTop (mkF m 31 #[.val (.int x0), .val (.int x1), .val (.int x2), .val (.int x3), .val (.ref b1), .unset] [(.int (1 : Int32))]))
    refine Go.step (fun _ k => XS.istore X2.here hx rfl (hb hby at_31) rfl (l' := #[.val (.int x0), .val (.int x1), .val (.int x2), .val (.int x3), .val (.ref b1), .val (.int (1 : Int32))]) rfl k) ?_
    show Go _ _ _ _ (T2.setTop (mkF m 33 #[.val (.int x0), .val (.int x1), .val (.int x2), .val (.int x3), .val (.ref b1), .val (.int (1 : Int32))] []))
    refine Go.step (fun _ k => XS.aload X2.here hx rfl (hb hby at_33) rfl rfl k) ?_
    show Go _ _ _ _ (T2.setTop (mkF m 35 #[.val (.int x0), .val (.int x1), .val (.int x2), .val (.int x3), .val (.ref b1), .val (.int (1 : Int32))] [(.ref b1)]))
    refine goV X2 hx hZ hown (hw _ (List.mem_of_getElem? (i := 30) rfl)) (hw _ (List.mem_of_getElem? (i := 31) rfl)) (notFace_of_selects (args := #[]) (mvT hZ (hw _ (List.mem_of_getElem? (i := 33) rfl)))) (hw _ (List.mem_of_getElem? (i := 33) rfl)) (hw _ (List.mem_of_getElem? (i := 32) rfl)) (hw _ (List.mem_of_getElem? (i := 2) rfl)) (hw _ (List.mem_of_getElem? (i := 34) rfl)) (by decide) (rm4 l Z a0 hw [] b1 T2.heap x3 FL2) rfl EX2 (by rw [hml]; rfl) [] [] rfl pd4 rfl rfl 0 rfl (hb hby at_35) (by decide) (by decide) (by decide) (by decide) fun T4 L4 v4 q4 X4 => ?_
    obtain ⟨rfl, e4, rfl⟩ := q4
    rw [List.append_nil] at X4
    show Go _ _ _ _ (T4.setTop (mkF m 38 #[.val (.int x0), .val (.int x1), .val (.int x2), .val (.int x3), .val (.ref b1), .val (.int (1 : Int32))] [(.int (own_one x3))]))
    refine Go.step (fun _ k => XS.iload X4.here hx rfl (hb hby at_38) rfl k) ?_
    show Go _ _ _ _ (T4.setTop (mkF m 40 #[.val (.int x0), .val (.int x1), .val (.int x2), .val (.int x3), .val (.ref b1), .val (.int (1 : Int32))] [(.int (1 : Int32)), (.int (own_one x3))]))
    refine Go.step (fun _ k => XS.icmpYes X4.here hx rfl (pc0 := 40) (pc' := 45) rfl (hb hby at_40) rfl (teq (if_neg ((own_bits x3).mp hc3))).1 (by decide) (by decide) k) ?_
    show Go _ _ _ _ (T4.setTop (mkF m 45 #[.val (.int x0), .val (.int x1), .val (.int x2), .val (.int x3), .val (.ref b1), .val (.int (1 : Int32))] []))
    refine Go.step (fun _ k => XS.iloadN X4.here hx rfl (hb hby at_45) rfl k) ?_
    show Go _ _ _ _ (T4.setTop (mkF m 46 #[.val (.int x0), .val (.int x1), .val (.int x2), .val (.int x3), .val (.ref b1), .val (.int (1 : Int32))] [(.int x0)]))
    refine Go.step (fun _ k => XS.aconstNull X4.here hx rfl (hb hby at_46) k) ?_
    show Go _ _ _ _ (T4.setTop (mkF m 47 #[.val (.int x0), .val (.int x1), .val (.int x2), .val (.int x3), .val (.ref b1), .val (.int (1 : Int32))] [.null, (.int x0)]))
    refine goSW X4 hS (by rw [e4]; exact (Nat.le_trans E1.1 K2)) hx hZ hown (hw _ (List.mem_of_getElem? (i := 35) rfl)) (hw _ (List.mem_of_getElem? (i := 36) rfl)) (hw _ (List.mem_of_getElem? (i := 2) rfl)) (hw _ (List.mem_of_getElem? (i := 37) rfl)) (by decide) (rm5 l Z a0 hw [] x0 _ h0.size (Nat.le_trans E1.1 K2)) e4 (by rw [hml]; rfl) [(.int x0), .null] [] rfl pd5 rfl rfl 0 rfl (hb hby at_47) (by decide) (by decide) (by decide) (by decide) fun T5 L5 v5 q5 X5 hS5 hg5 hZ hown => ?_
    obtain ⟨o5, rfl, N5, EX5, FL5⟩ := q5
    rw [e4] at hg5
    show Go _ _ _ _ (T5.setTop (mkF m 50 #[.val (.int x0), .val (.int x1), .val (.int x2), .val (.int x3), .val (.ref b1), .val (.int (1 : Int32))] [(.ref o5)]))
    refine goV X5 hx hZ hown (hw _ (List.mem_of_getElem? (i := 30) rfl)) (hw _ (List.mem_of_getElem? (i := 31) rfl)) (notFace_of_selects (args := #[]) (mvT hZ (hw _ (List.mem_of_getElem? (i := 33) rfl)))) (hw _ (List.mem_of_getElem? (i := 33) rfl)) (hw _ (List.mem_of_getElem? (i := 32) rfl)) (hw _ (List.mem_of_getElem? (i := 2) rfl)) (hw _ (List.mem_of_getElem? (i := 34) rfl)) (by decide) (rm4 l Z a0 hw [] o5 T5.heap (2 : Int32) FL5) rfl EX5 (by rw [hml]; rfl) [] [] rfl pd4 rfl rfl 0 rfl (hb hby at_50) (by decide) (by decide) (by decide) (by decide) fun T6 L6 v6 q6 X6 => ?_
    obtain ⟨rfl, e6, rfl⟩ := q6
    rw [List.append_nil] at X6
    show Go _ _ _ _ (T6.setTop (mkF m 53 #[.val (.int x0), .val (.int x1), .val (.int x2), .val (.int x3), .val (.ref b1), .val (.int (1 : Int32))] [(.int (own_one (2 : Int32)))]))
    refine Go.step (fun _ k => XS.ifYes X6.here hx rfl (pc0 := 53) (pc' := 58) rfl (hb hby at_53) rfl ((if0 _ _).trans (feq (by decide : ¬ own_one 2 = 0)).2) (by decide) (by decide) k) ?_
    show Go _ _ _ _ (T6.setTop (mkF m 58 #[.val (.int x0), .val (.int x1), .val (.int x2), .val (.int x3), .val (.ref b1), .val (.int (1 : Int32))] []))
    refine Go.step (fun _ k => XS.iloadN X6.here hx rfl (hb hby at_58) rfl k) ?_
    show Go _ _ _ _ (T6.setTop (mkF m 59 #[.val (.int x0), .val (.int x1), .val (.int x2), .val (.int x3), .val (.ref b1), .val (.int (1 : Int32))] [(.int x0)]))
    refine Go.step (fun _ k => XS.aconstNull X6.here hx rfl (hb hby at_59) k) ?_
    show Go _ _ _ _ (T6.setTop (mkF m 60 #[.val (.int x0), .val (.int x1), .val (.int x2), .val (.int x3), .val (.ref b1), .val (.int (1 : Int32))] [.null, (.int x0)]))
    refine Go.step (fun _ k => XS.aconstNull X6.here hx rfl (hb hby at_60) k) ?_
    show Go _ _ _ _ (T6.setTop (mkF m 61 #[.val (.int x0), .val (.int x1), .val (.int x2), .val (.int x3), .val (.ref b1), .val (.int (1 : Int32))] [.null, .null, (.int x0)]))
    refine goSW X6 hS5 (by rw [e6]; exact (Nat.le_refl _)) hx hZ hown (hw _ (List.mem_of_getElem? (i := 48) rfl)) (hw _ (List.mem_of_getElem? (i := 49) rfl)) (hw _ (List.mem_of_getElem? (i := 2) rfl)) (hw _ (List.mem_of_getElem? (i := 50) rfl)) (by decide) (rm6 l Z a0 hw [] x0 _ h0.size (Nat.le_trans (Nat.le_trans E1.1 K2) hg5)) e6 (by rw [hml]; rfl) [(.int x0), .null, .null] [] rfl pd6 rfl rfl 0 rfl (hb hby at_61) (by decide) (by decide) (by decide) (by decide) fun T7 L7 v7 q7 X7 hS7 hg7 hZ hown => ?_
    obtain ⟨o7, rfl, N7, EX7, FL7⟩ := q7
    rw [e6] at hg7
    show Go _ _ _ _ (T7.setTop (mkF m 64 #[.val (.int x0), .val (.int x1), .val (.int x2), .val (.int x3), .val (.ref b1), .val (.int (1 : Int32))] [(.ref o7)]))
    refine goV X7 hx hZ hown (hw _ (List.mem_of_getElem? (i := 30) rfl)) (hw _ (List.mem_of_getElem? (i := 31) rfl)) (notFace_of_selects (args := #[]) (mvT hZ (hw _ (List.mem_of_getElem? (i := 33) rfl)))) (hw _ (List.mem_of_getElem? (i := 33) rfl)) (hw _ (List.mem_of_getElem? (i := 32) rfl)) (hw _ (List.mem_of_getElem? (i := 2) rfl)) (hw _ (List.mem_of_getElem? (i := 34) rfl)) (by decide) (rm4 l Z a0 hw [] o7 T7.heap (0 : Int32) FL7) rfl EX7 (by rw [hml]; rfl) [] [] rfl pd4 rfl rfl 0 rfl (hb hby at_64) (by decide) (by decide) (by decide) (by decide) fun T8 L8 v8 q8 X8 => ?_
    obtain ⟨rfl, e8, rfl⟩ := q8
    rw [List.append_nil] at X8
    show Go _ _ _ _ (T8.setTop (mkF m 67 #[.val (.int x0), .val (.int x1), .val (.int x2), .val (.int x3), .val (.ref b1), .val (.int (1 : Int32))] [(.int (own_one (0 : Int32)))]))
    refine Go.step (fun _ k => XS.ifYes X8.here hx rfl (pc0 := 67) (pc' := 72) rfl (hb hby at_67) rfl ((if0 _ _).trans (teq (by decide : own_one 0 = 0)).1) (by decide) (by decide) k) ?_
    show Go _ _ _ _ (T8.setTop (mkF m 72 #[.val (.int x0), .val (.int x1), .val (.int x2), .val (.int x3), .val (.ref b1), .val (.int (1 : Int32))] []))
    refine Go.step (fun _ k => XS.iloadN X8.here hx rfl (hb hby at_72) rfl k) ?_
    show Go _ _ _ _ (T8.setTop (mkF m 73 #[.val (.int x0), .val (.int x1), .val (.int x2), .val (.int x3), .val (.ref b1), .val (.int (1 : Int32))] [(.int x0)]))
    refine Go.step (fun _ k => XS.aconstNull X8.here hx rfl (hb hby at_73) k) ?_
    show Go _ _ _ _ (T8.setTop (mkF m 74 #[.val (.int x0), .val (.int x1), .val (.int x2), .val (.int x3), .val (.ref b1), .val (.int (1 : Int32))] [.null, (.int x0)]))
    refine Go.step (fun _ k => XS.aconstNull X8.here hx rfl (hb hby at_74) k) ?_
    show Go _ _ _ _ (T8.setTop (mkF m 75 #[.val (.int x0), .val (.int x1), .val (.int x2), .val (.int x3), .val (.ref b1), .val (.int (1 : Int32))] [.null, .null, (.int x0)]))
    refine Go.step (fun _ k => XS.aconstNull X8.here hx rfl (hb hby at_75) k) ?_
    show Go _ _ _ _ (T8.setTop (mkF m 76 #[.val (.int x0), .val (.int x1), .val (.int x2), .val (.int x3), .val (.ref b1), .val (.int (1 : Int32))] [.null, .null, .null, (.int x0)]))
    refine goSW X8 hS7 (by rw [e8]; exact (Nat.le_refl _)) hx hZ hown (hw _ (List.mem_of_getElem? (i := 51) rfl)) (hw _ (List.mem_of_getElem? (i := 52) rfl)) (hw _ (List.mem_of_getElem? (i := 2) rfl)) (hw _ (List.mem_of_getElem? (i := 53) rfl)) (by decide) (rm7 l Z a0 hw [] x0 _ h0.size (Nat.le_trans (Nat.le_trans (Nat.le_trans E1.1 K2) hg5) hg7)) e8 (by rw [hml]; rfl) [(.int x0), .null, .null, .null] [] rfl pd7 rfl rfl 0 rfl (hb hby at_76) (by decide) (by decide) (by decide) (by decide) fun T9 L9 v9 q9 X9 hS9 hg9 hZ hown => ?_
    obtain ⟨o9, rfl, N9, EX9, FL9⟩ := q9
    rw [e8] at hg9
    show Go _ _ _ _ (T9.setTop (mkF m 79 #[.val (.int x0), .val (.int x1), .val (.int x2), .val (.int x3), .val (.ref b1), .val (.int (1 : Int32))] [(.ref o9)]))
    refine goV X9 hx hZ hown (hw _ (List.mem_of_getElem? (i := 30) rfl)) (hw _ (List.mem_of_getElem? (i := 31) rfl)) (notFace_of_selects (args := #[]) (mvT hZ (hw _ (List.mem_of_getElem? (i := 33) rfl)))) (hw _ (List.mem_of_getElem? (i := 33) rfl)) (hw _ (List.mem_of_getElem? (i := 32) rfl)) (hw _ (List.mem_of_getElem? (i := 2) rfl)) (hw _ (List.mem_of_getElem? (i := 34) rfl)) (by decide) (rm4 l Z a0 hw [] o9 T9.heap (1 : Int32) FL9) rfl EX9 (by rw [hml]; rfl) [] [] rfl pd4 rfl rfl 0 rfl (hb hby at_79) (by decide) (by decide) (by decide) (by decide) fun T10 L10 v10 q10 X10 => ?_
    obtain ⟨rfl, e10, rfl⟩ := q10
    rw [List.append_nil] at X10
    show Go _ _ _ _ (T10.setTop (mkF m 82 #[.val (.int x0), .val (.int x1), .val (.int x2), .val (.int x3), .val (.ref b1), .val (.int (1 : Int32))] [(.int (own_one (1 : Int32)))]))
    refine Go.step (fun _ k => XS.ifYes X10.here hx rfl (pc0 := 82) (pc' := 87) rfl (hb hby at_82) rfl ((if0 _ _).trans (teq (by decide : own_one 1 = 0)).1) (by decide) (by decide) k) ?_
    show Go _ _ _ _ (T10.setTop (mkF m 87 #[.val (.int x0), .val (.int x1), .val (.int x2), .val (.int x3), .val (.ref b1), .val (.int (1 : Int32))] []))
    refine Go.step (fun _ k => XS.iconst X10.here hx rfl (hb hby at_87) k) ?_
    show Go _ _ _ _ (T10.setTop (mkF m 88 #[.val (.int x0), .val (.int x1), .val (.int x2), .val (.int x3), .val (.ref b1), .val (.int (1 : Int32))] [(.int (1 : Int32))]))
    exact leafNW X10 hS9 (by rw [e10]; exact (Nat.le_refl _)) hx (t := .boolean) hret (by simp) hlk (w := (1 : Int32)) rfl (hb hby at_88) ⟨rfl, (Fr.app (Fr.app (Fr.app (Fr.app (Fr.nil _) N2) N5) N7) N9)⟩ (by decide) (by decide)
  · refine Go.step (fun _ k => XS.icmpYes X2.here hx rfl (pc0 := 23) (pc' := 30) rfl (hb hby at_23) rfl (feq hc3).2 (by decide) (by decide) k) ?_
    show Go _ _ _ _ (T2.setTop (mkF m 30 #[.val (.int x0), .val (.int x1), .val (.int x2), .val (.int x3), .val (.ref b1), .unset] []))
    refine Go.step (fun _ k => XS.iconst X2.here hx rfl (hb hby at_30) k) ?_
    show Go _ _ _ _ (T2.setTop (mkF m 31 #[.val (.int x0), .val (.int x1), .val (.int x2), .val (.int x3), .val (.ref b1), .unset] [(.int (0 : Int32))]))
    refine Go.step (fun _ k => XS.istore X2.here hx rfl (hb hby at_31) rfl (l' := #[.val (.int x0), .val (.int x1), .val (.int x2), .val (.int x3), .val (.ref b1), .val (.int (0 : Int32))]) rfl k) ?_
    show Go _ _ _ _ (T2.setTop (mkF m 33 #[.val (.int x0), .val (.int x1), .val (.int x2), .val (.int x3), .val (.ref b1), .val (.int (0 : Int32))] []))
    refine Go.step (fun _ k => XS.aload X2.here hx rfl (hb hby at_33) rfl rfl k) ?_
    show Go _ _ _ _ (T2.setTop (mkF m 35 #[.val (.int x0), .val (.int x1), .val (.int x2), .val (.int x3), .val (.ref b1), .val (.int (0 : Int32))] [(.ref b1)]))
    refine goV X2 hx hZ hown (hw _ (List.mem_of_getElem? (i := 30) rfl)) (hw _ (List.mem_of_getElem? (i := 31) rfl)) (notFace_of_selects (args := #[]) (mvT hZ (hw _ (List.mem_of_getElem? (i := 33) rfl)))) (hw _ (List.mem_of_getElem? (i := 33) rfl)) (hw _ (List.mem_of_getElem? (i := 32) rfl)) (hw _ (List.mem_of_getElem? (i := 2) rfl)) (hw _ (List.mem_of_getElem? (i := 34) rfl)) (by decide) (rm4 l Z a0 hw [] b1 T2.heap x3 FL2) rfl EX2 (by rw [hml]; rfl) [] [] rfl pd4 rfl rfl 0 rfl (hb hby at_35) (by decide) (by decide) (by decide) (by decide) fun T11 L11 v11 q11 X11 => ?_
    obtain ⟨rfl, e11, rfl⟩ := q11
    rw [List.append_nil] at X11
    show Go _ _ _ _ (T11.setTop (mkF m 38 #[.val (.int x0), .val (.int x1), .val (.int x2), .val (.int x3), .val (.ref b1), .val (.int (0 : Int32))] [(.int (own_one x3))]))
    refine Go.step (fun _ k => XS.iload X11.here hx rfl (hb hby at_38) rfl k) ?_
    show Go _ _ _ _ (T11.setTop (mkF m 40 #[.val (.int x0), .val (.int x1), .val (.int x2), .val (.int x3), .val (.ref b1), .val (.int (0 : Int32))] [(.int (0 : Int32)), (.int (own_one x3))]))
    refine Go.step (fun _ k => XS.icmpYes X11.here hx rfl (pc0 := 40) (pc' := 45) rfl (hb hby at_40) rfl (teq (if_pos (Decidable.not_not.mp fun q => hc3 ((own_bits x3).mpr q)))).1 (by decide) (by decide) k) ?_
    show Go _ _ _ _ (T11.setTop (mkF m 45 #[.val (.int x0), .val (.int x1), .val (.int x2), .val (.int x3), .val (.ref b1), .val (.int (0 : Int32))] []))
    refine Go.step (fun _ k => XS.iloadN X11.here hx rfl (hb hby at_45) rfl k) ?_
    show Go _ _ _ _ (T11.setTop (mkF m 46 #[.val (.int x0), .val (.int x1), .val (.int x2), .val (.int x3), .val (.ref b1), .val (.int (0 : Int32))] [(.int x0)]))
    refine Go.step (fun _ k => XS.aconstNull X11.here hx rfl (hb hby at_46) k) ?_
    show Go _ _ _ _ (T11.setTop (mkF m 47 #[.val (.int x0), .val (.int x1), .val (.int x2), .val (.int x3), .val (.ref b1), .val (.int (0 : Int32))] [.null, (.int x0)]))
    refine goSW X11 hS (by rw [e11]; exact (Nat.le_trans E1.1 K2)) hx hZ hown (hw _ (List.mem_of_getElem? (i := 35) rfl)) (hw _ (List.mem_of_getElem? (i := 36) rfl)) (hw _ (List.mem_of_getElem? (i := 2) rfl)) (hw _ (List.mem_of_getElem? (i := 37) rfl)) (by decide) (rm5 l Z a0 hw [] x0 _ h0.size (Nat.le_trans E1.1 K2)) e11 (by rw [hml]; rfl) [(.int x0), .null] [] rfl pd5 rfl rfl 0 rfl (hb hby at_47) (by decide) (by decide) (by decide) (by decide) fun T12 L12 v12 q12 X12 hS12 hg12 hZ hown => ?_
    obtain ⟨o12, rfl, N12, EX12, FL12⟩ := q12
    rw [e11] at hg12
    show Go _ _ _ _ (T12.setTop (mkF m 50 #[.val (.int x0), .val (.int x1), .val (.int x2), .val (.int x3), .val (.ref b1), .val (.int (0 : Int32))] [(.ref o12)]))
    refine goV X12 hx hZ hown (hw _ (List.mem_of_getElem? (i := 30) rfl)) (hw _ (List.mem_of_getElem? (i := 31) rfl)) (notFace_of_selects (args := #[]) (mvT hZ (hw _ (List.mem_of_getElem? (i := 33) rfl)))) (hw _ (List.mem_of_getElem? (i := 33) rfl)) (hw _ (List.mem_of_getElem? (i := 32) rfl)) (hw _ (List.mem_of_getElem? (i := 2) rfl)) (hw _ (List.mem_of_getElem? (i := 34) rfl)) (by decide) (rm4 l Z a0 hw [] o12 T12.heap (2 : Int32) FL12) rfl EX12 (by rw [hml]; rfl) [] [] rfl pd4 rfl rfl 0 rfl (hb hby at_50) (by decide) (by decide) (by decide) (by decide) fun T13 L13 v13 q13 X13 => ?_
    obtain ⟨rfl, e13, rfl⟩ := q13
    rw [List.append_nil] at X13
    show Go _ _ _ _ (T13.setTop (mkF m 53 #[.val (.int x0), .val (.int x1), .val (.int x2), .val (.int x3), .val (.ref b1), .val (.int (0 : Int32))] [(.int (own_one (2 : Int32)))]))
    refine Go.step (fun _ k => XS.ifYes X13.here hx rfl (pc0 := 53) (pc' := 58) rfl (hb hby at_53) rfl ((if0 _ _).trans (feq (by decide : ¬ own_one 2 = 0)).2) (by decide) (by decide) k) ?_
    show Go _ _ _ _ (T13.setTop (mkF m 58 #[.val (.int x0), .val (.int x1), .val (.int x2), .val (.int x3), .val (.ref b1), .val (.int (0 : Int32))] []))
    refine Go.step (fun _ k => XS.iloadN X13.here hx rfl (hb hby at_58) rfl k) ?_
    show Go _ _ _ _ (T13.setTop (mkF m 59 #[.val (.int x0), .val (.int x1), .val (.int x2), .val (.int x3), .val (.ref b1), .val (.int (0 : Int32))] [(.int x0)]))
    refine Go.step (fun _ k => XS.aconstNull X13.here hx rfl (hb hby at_59) k) ?_
    show Go _ _ _ _ (T13.setTop (mkF m 60 #[.val (.int x0), .val (.int x1), .val (.int x2), .val (.int x3), .val (.ref b1), .val (.int (0 : Int32))] [.null, (.int x0)]))
    refine Go.step (fun _ k => XS.aconstNull X13.here hx rfl (hb hby at_60) k) ?_
    show Go _ _ _ _ (T13.setTop (mkF m 61 #[.val (.int x0), .val (.int x1), .val (.int x2), .val (.int x3), .val (.ref b1), .val (.int (0 : Int32))] [.null, .null, (.int x0)]))
    refine goSW X13 hS12 (by rw [e13]; exact (Nat.le_refl _)) hx hZ hown (hw _ (List.mem_of_getElem? (i := 48) rfl)) (hw _ (List.mem_of_getElem? (i := 49) rfl)) (hw _ (List.mem_of_getElem? (i := 2) rfl)) (hw _ (List.mem_of_getElem? (i := 50) rfl)) (by decide) (rm6 l Z a0 hw [] x0 _ h0.size (Nat.le_trans (Nat.le_trans E1.1 K2) hg12)) e13 (by rw [hml]; rfl) [(.int x0), .null, .null] [] rfl pd6 rfl rfl 0 rfl (hb hby at_61) (by decide) (by decide) (by decide) (by decide) fun T14 L14 v14 q14 X14 hS14 hg14 hZ hown => ?_
    obtain ⟨o14, rfl, N14, EX14, FL14⟩ := q14
    rw [e13] at hg14
    show Go _ _ _ _ (T14.setTop (mkF m 64 #[.val (.int x0), .val (.int x1), .val (.int x2), .val (.int x3), .val (.ref b1), .val (.int (0 : Int32))] [(.ref o14)]))
    refine goV X14 hx hZ hown (hw _ (List.mem_of_getElem? (i := 30) rfl)) (hw _ (List.mem_of_getElem? (i := 31) rfl)) (notFace_of_selects (args := #[]) (mvT hZ (hw _ (List.mem_of_getElem? (i := 33) rfl)))) (hw _ (List.mem_of_getElem? (i := 33) rfl)) (hw _ (List.mem_of_getElem? (i := 32) rfl)) (hw _ (List.mem_of_getElem? (i := 2) rfl)) (hw _ (List.mem_of_getElem? (i := 34) rfl)) (by decide) (rm4 l Z a0 hw [] o14 T14.heap (0 : Int32) FL14) rfl EX14 (by rw [hml]; rfl) [] [] rfl pd4 rfl rfl 0 rfl (hb hby at_64) (by decide) (by decide) (by decide) (by decide) fun T15 L15 v15 q15 X15 => ?_
    obtain ⟨rfl, e15, rfl⟩ := q15
    rw [List.append_nil] at X15
    show Go _ _ _ _ (T15.setTop (mkF m 67 #[.val (.int x0), .val (.int x1), .val (.int x2), .val (.int x3), .val (.ref b1), .val (.int (0 : Int32))] [(.int (own_one (0 : Int32)))]))
    refine Go.step (fun _ k => XS.ifYes X15.here hx rfl (pc0 := 67) (pc' := 72) rfl (hb hby at_67) rfl ((if0 _ _).trans (teq (by decide : own_one 0 = 0)).1) (by decide) (by decide) k) ?_
    show Go _ _ _ _ (T15.setTop (mkF m 72 #[.val (.int x0), .val (.int x1), .val (.int x2), .val (.int x3), .val (.ref b1), .val (.int (0 : Int32))] []))
    refine Go.step (fun _ k => XS.iloadN X15.here hx rfl (hb hby at_72) rfl k) ?_
    show Go _ _ _ _ (T15.setTop (mkF m 73 #[.val (.int x0), .val (.int x1), .val (.int x2), .val (.int x3), .val (.ref b1), .val (.int (0 : Int32))] [(.int x0)]))
    refine Go.step (fun _ k => XS.aconstNull X15.here hx rfl (hb hby at_73) k) ?_
    show Go _ _ _ _ (T15.setTop (mkF m 74 #[.val (.int x0), .val (.int x1), .val (.int x2), .val (.int x3), .val (.ref b1), .val (.int (0 : Int32))] [.null, (.int x0)]))
    refine Go.step (fun _ k => XS.aconstNull X15.here hx rfl (hb hby at_74) k) ?_
    show Go _ _ _ _ (T15.setTop (mkF m 75 #[.val (.int x0), .val (.int x1), .val (.int x2), .val (.int x3), .val (.ref b1), .val (.int (0 : Int32))] [.null, .null, (.int x0)]))
    refine Go.step (fun _ k => XS.aconstNull X15.here hx rfl (hb hby at_75) k) ?_
    show Go _ _ _ _ (T15.setTop (mkF m 76 #[.val (.int x0), .val (.int x1), .val (.int x2), .val (.int x3), .val (.ref b1), .val (.int (0 : Int32))] [.null, .null, .null, (.int x0)]))
    refine goSW X15 hS14 (by rw [e15]; exact (Nat.le_refl _)) hx hZ hown (hw _ (List.mem_of_getElem? (i := 51) rfl)) (hw _ (List.mem_of_getElem? (i := 52) rfl)) (hw _ (List.mem_of_getElem? (i := 2) rfl)) (hw _ (List.mem_of_getElem? (i := 53) rfl)) (by decide) (rm7 l Z a0 hw [] x0 _ h0.size (Nat.le_trans (Nat.le_trans (Nat.le_trans E1.1 K2) hg12) hg14)) e15 (by rw [hml]; rfl) [(.int x0), .null, .null, .null] [] rfl pd7 rfl rfl 0 rfl (hb hby at_76) (by decide) (by decide) (by decide) (by decide) fun T16 L16 v16 q16 X16 hS16 hg16 hZ hown => ?_
    obtain ⟨o16, rfl, N16, EX16, FL16⟩ := q16
    rw [e15] at hg16
    show Go _ _ _ _ (T16.setTop (mkF m 79 #[.val (.int x0), .val (.int x1), .val (.int x2), .val (.int x3), .val (.ref b1), .val (.int (0 : Int32))] [(.ref o16)]))
    refine goV X16 hx hZ hown (hw _ (List.mem_of_getElem? (i := 30) rfl)) (hw _ (List.mem_of_getElem? (i := 31) rfl)) (notFace_of_selects (args := #[]) (mvT hZ (hw _ (List.mem_of_getElem? (i := 33) rfl)))) (hw _ (List.mem_of_getElem? (i := 33) rfl)) (hw _ (List.mem_of_getElem? (i := 32) rfl)) (hw _ (List.mem_of_getElem? (i := 2) rfl)) (hw _ (List.mem_of_getElem? (i := 34) rfl)) (by decide) (rm4 l Z a0 hw [] o16 T16.heap (1 : Int32) FL16) rfl EX16 (by rw [hml]; rfl) [] [] rfl pd4 rfl rfl 0 rfl (hb hby at_79) (by decide) (by decide) (by decide) (by decide) fun T17 L17 v17 q17 X17 => ?_
    obtain ⟨rfl, e17, rfl⟩ := q17
    rw [List.append_nil] at X17
    show Go _ _ _ _ (T17.setTop (mkF m 82 #[.val (.int x0), .val (.int x1), .val (.int x2), .val (.int x3), .val (.ref b1), .val (.int (0 : Int32))] [(.int (own_one (1 : Int32)))]))
    refine Go.step (fun _ k => XS.ifYes X17.here hx rfl (pc0 := 82) (pc' := 87) rfl (hb hby at_82) rfl ((if0 _ _).trans (teq (by decide : own_one 1 = 0)).1) (by decide) (by decide) k) ?_
    show Go _ _ _ _ (T17.setTop (mkF m 87 #[.val (.int x0), .val (.int x1), .val (.int x2), .val (.int x3), .val (.ref b1), .val (.int (0 : Int32))] []))
    refine Go.step (fun _ k => XS.iconst X17.here hx rfl (hb hby at_87) k) ?_
    show Go _ _ _ _ (T17.setTop (mkF m 88 #[.val (.int x0), .val (.int x1), .val (.int x2), .val (.int x3), .val (.ref b1), .val (.int (0 : Int32))] [(.int (1 : Int32))]))
    exact leafNW X17 hS16 (by rw [e17]; exact (Nat.le_refl _)) hx (t := .boolean) hret (by simp) hlk (w := (1 : Int32)) rfl (hb hby at_88) ⟨rfl, (Fr.app (Fr.app (Fr.app (Fr.app (Fr.nil _) N2) N12) N14) N16)⟩ (by decide) (by decide)
set_option maxRecDepth 65536 in
set_option maxHeartbeats 40000000 in
theorem comes_1 {Post : Tables → Env → Array Value → State → Outcome → State → Prop} (hpost : ∀ tb e args s v u, (limb_1_1.after args s (.returned v) u = true ∧ limb_1_2.after args s (.returned v) u = true ∧ True) → ReturnedEndW s (.returned v) u (Jvm.fieldLocs frame_1_writes args s ++ Jvm.arrayLocs frame_1_arrays args s ++ Jvm.staticLocs frame_1_statics s) 24 1216 → Post tb e args s (.returned v) u) :
    ArmFor flags0 classFile x code maxLocals ret World_1 tables_1 room_1 Calls_1 rest_1 Pre_1 Post := by
  intro l hfl _ _ p e ha hc hk s m args below hf hA hF happ hP
  obtain ⟨hcalls, hrest, hpre⟩ := hP
  obtain ⟨-, -, -, hnamed, -, -, -, hat⟩ := (Spec.applies_iff hf).mp happ
  obtain ⟨hg, hn⟩ := and_e (Cond.before_iff.mp (show (Jvm.Cond.and given_1 narrow_1).before args s = true from hpre))
  obtain ⟨hcount, hg0⟩ := and_e hg
  obtain ⟨ha0, hg1⟩ := and_e hg0
  obtain ⟨ha1, hg2⟩ := and_e hg1
  obtain ⟨ha2, hg3⟩ := and_e hg2
  have ha3 := hg3
  obtain ⟨w0, w1, w2, w3, rfl⟩ : ∃ w0 w1 w2 w3 : Value, args = #[w0, w1, w2, w3] := by
    have hs : args.size = 4 := by simpa [Cond.value, given_1] using hcount
    obtain ⟨L⟩ := args
    match L, hs with
    | [w0, w1, w2, w3], _ => exact ⟨w0, w1, w2, w3, rfl⟩
  have hw := fun d (hd : d ∈ tables_1) => atoms_spec (ws := Jvm.Cond.code x code maxLocals ret :: tables_1) hat d (List.mem_cons_of_mem _ hd)
  obtain ⟨i0, ei0⟩ := is_v ha0
  obtain rfl : w0 = (.int i0) := Option.some.inj ei0
  obtain ⟨i1, ei1⟩ := is_v ha1
  obtain rfl : w1 = (.int i1) := Option.some.inj ei1
  obtain ⟨i2, ei2⟩ := is_v ha2
  obtain rfl : w2 = (.int i2) := Option.some.inj ei2
  obtain ⟨i3, ei3⟩ := is_v ha3
  obtain rfl : w3 = (.int i3) := Option.some.inj ei3
  obtain ⟨n, o, h1, h2, h3, _, L, rfl, ⟨rfl, N⟩, hq⟩ := rm0 l s _ hw tables_1 i0 i1 i2 i3 s.heap p e ha hc hk s m _ below hf ((Spec.applies_iff_loose hf).mp happ).1 ⟨rfl, State.Warmed39.refl s, rfl⟩ trivial
  refine ⟨n, _, h1, h2, h3, hpost _ _ _ _ _ _ ⟨Cond.after_iff.mpr rfl, Cond.after_iff.mpr (eq_i res_at (Term.int_eval (1)) rfl), trivial⟩ ⟨hq.1, hq.2.1, hq.2.2.1, (hq.2.2.2.sift fun y hy => Or.inr (N y hy)).mono (by decide) (by decide)⟩⟩
theorem main_1_1 : Claimed_1_1 := comes_1 fun _ _ _ _ _ _ h hF => ⟨h.1, hF⟩
theorem main_1_2 : Claimed_1_2 := comes_1 fun _ _ _ _ _ _ h hF => ⟨h.2.1, hF⟩
end Jvm.Pilot.@@N@@
namespace Jvm.Pilot.@@N@@
open Jvm Jvm.ClassFile Sem Op Lib Jvm.Free Jvm.Stand Jvm.Pilot.@@N@@.Jvm.D
/-! MADE BY PROGRAM (witnessworld.py) out of the Statement's table words and the real class files: 15 classes; the members and pool entries that the words name. The judged class is class 1, her method 1. -/
namespace start1
open Jvm.ClassFile
def u (s : String) : CpInfo := .utf8 (stringToUtf16 s)
/-- a pool by its gaps: so many unusable entries, then the entry; so many at the end -/
def gap : Nat → List CpInfo → List CpInfo
  | 0, r => r
  | n + 1, r => .unusable :: gap n r
def poolList (es : List (Nat × CpInfo)) (last : Nat) : List CpInfo := es.foldr (fun e r => gap e.1 (e.2 :: r)) (gap last [])
def pool (es : List (Nat × CpInfo)) (last : Nat) : Array CpInfo := ⟨poolList es last⟩
def fileOf (pool : Array CpInfo) (this : Nat) (attrs : Array Attribute := #[]) (ms : Array MethodInfo := #[]) (fl : Nat := 33) (sup : Nat := 0) (ifs : Array Nat := #[]) (fds : Array FieldInfo := #[]) : ClassFile where
  minorVersion := 0
  majorVersion := 65
  constantPool := pool
  accessFlags := fl
  thisClass := this
  superClass := sup
  interfaces := ifs
  fields := fds
  methods := ms
  attributes := attrs
def plain (name : String) (sup : Option ClassId) : Class where
  name := name
  kind := .ordinary
  loader := none
  accessFlags := 33
  super := sup
  interfaces := #[]
  cf := none
  fields := #[]
  methods := #[]
  instanceTypes := #[]
  staticTypes := #[]
  resolved := #[]
  callSites := []
  init := .initialized
  statics := none
  mirror := none

def pool0 : Array CpInfo := pool [(5, u "<init>"), (0, u "()V"), (1, .class_ 10), (1, u "java/lang/Object")] 113

def k0c0 : Code := { maxStack := 0, maxLocals := 1, code := object_method_1_code, exceptionTable := #[], attributes := #[] }
def k0m0 : Method := { name := "<init>", desc := "()V", sig := { parameters := [], returnType := none }, accessFlags := 1, code := some k0c0 }
/-- java/lang/Object -/
def k0 : Class := { plain "java/lang/Object" none with
  accessFlags := 33
  interfaces := #[]
  cf := some (fileOf pool0 8 #[] #[{ accessFlags := 1, nameIndex := 5, descriptorIndex := 6, attributes := #[] }] 33 0 #[] #[])
  fields := #[]
  methods := #[k0m0]
  instanceTypes := #[]
  staticTypes := #[]
  resolved := Array.replicate 124 none
  statics := none }

def pool1 : Array CpInfo := pool [(2, .class_ 4), (1, u "java/lang/Object"), (0, u "<init>"), (0, u "()V"), (0, .class_ 8), (0, u "com/example/topiq/topiq/remoting/RemotingCommand"), (0, .methodref 7 10), (0, .nameAndType 5 11), (0, u "(ILjava/lang/String;IIILjava/lang/String;Ljava/util/Map;[B)V"), (0, .methodref 7 13), (0, .nameAndType 14 15), (0, u "isOneway"), (0, u "()Z"), (0, .methodref 7 17), (0, .nameAndType 18 19), (0, u "oneway"), (0, u "(ILjava/util/Map;)Lcom/example/topiq/topiq/remoting/RemotingCommand;"), (0, .methodref 7 21), (0, .nameAndType 22 23), (0, u "request"), (0, u "(ILjava/util/Map;[B)Lcom/example/topiq/topiq/remoting/RemotingCommand;"), (0, .methodref 7 25), (0, .nameAndType 26 27), (0, u "response"), (0, u "(ILjava/lang/String;Ljava/util/Map;[B)Lcom/example/topiq/topiq/remoting/RemotingCommand;"), (0, .class_ 29), (0, u "com/example/topiq/topiq/remoting/RemotingCommandIsOnewayPinLaw"), (2, u "law"), (0, u "(IIII)Z")] 3

def k1m0 : Method := { name := "<init>", desc := "()V", sig := { parameters := [], returnType := none }, accessFlags := 1, code := none }
def k1c1 : Code := { maxStack := 10, maxLocals := 6, code := code, exceptionTable := #[], attributes := #[] }
def k1m1 : Method := { name := "law", desc := "(IIII)Z", sig := { parameters := [.int, .int, .int, .int], returnType := some .boolean }, accessFlags := 9, code := some k1c1 }
/-- com/example/topiq/topiq/remoting/RemotingCommandIsOnewayPinLaw -/
def k1 : Class := { plain "com/example/topiq/topiq/remoting/RemotingCommandIsOnewayPinLaw" (some 0) with
  accessFlags := 49
  interfaces := #[]
  cf := some (fileOf pool1 28 #[] #[{ accessFlags := 1, nameIndex := 5, descriptorIndex := 6, attributes := #[] }, { accessFlags := 9, nameIndex := 32, descriptorIndex := 33, attributes := #[] }] 49 2 #[] #[])
  fields := #[]
  methods := #[k1m0, k1m1]
  instanceTypes := #[]
  staticTypes := #[]
  resolved := Array.replicate 37 none
  statics := none }

def pool2 : Array CpInfo := pool [(1, .methodref 2 3), (0, .class_ 4), (0, .nameAndType 5 6), (0, u "java/lang/Object"), (0, u "<init>"), (0, u "()V"), (0, .class_ 8), (0, u "java/lang/Record")] 13

def k2c0 : Code := { maxStack := 1, maxLocals := 1, code := jdk_30_method_1_code, exceptionTable := #[], attributes := #[] }
def k2m0 : Method := { name := "<init>", desc := "()V", sig := { parameters := [], returnType := none }, accessFlags := 4, code := some k2c0 }
/-- java/lang/Record -/
def k2 : Class := { plain "java/lang/Record" (some 0) with
  accessFlags := 1057
  interfaces := #[]
  cf := some (fileOf pool2 7 #[] #[{ accessFlags := 4, nameIndex := 5, descriptorIndex := 6, attributes := #[] }] 1057 2 #[] #[])
  fields := #[]
  methods := #[k2m0]
  instanceTypes := #[]
  staticTypes := #[]
  resolved := Array.replicate 22 none
  statics := none }

def pool3 : Array CpInfo := pool [(1, .methodref 2 3), (0, .class_ 4), (0, .nameAndType 5 6), (0, u "java/lang/Record"), (0, u "<init>"), (0, u "()V"), (0, .fieldref 8 9), (0, .class_ 10), (0, .nameAndType 11 12), (0, u "com/example/topiq/topiq/remoting/RemotingCommand"), (0, u "code"), (0, u "I"), (0, .fieldref 8 14), (0, .nameAndType 15 16), (0, u "language"), (0, u "Ljava/lang/String;"), (0, .fieldref 8 18), (0, .nameAndType 19 12), (0, u "version"), (0, .fieldref 8 21), (0, .nameAndType 22 12), (0, u "opaque"), (0, .fieldref 8 24), (0, .nameAndType 25 12), (0, u "flag"), (0, .fieldref 8 27), (0, .nameAndType 28 16), (0, u "remark"), (0, .fieldref 8 30), (0, .nameAndType 31 32), (0, u "extFields"), (0, u "Ljava/util/Map;"), (0, .fieldref 8 34), (0, .nameAndType 35 36), (0, u "body"), (0, u "[B"), (0, .string 38), (0, u "JAVA"), (0, .methodref 8 40), (0, .nameAndType 5 41), (0, u "(ILjava/lang/String;IIILjava/lang/String;Ljava/util/Map;[B)V"), (35, u "()Z"), (60, u "RESPONSE_FLAG"), (2, u "ONEWAY_FLAG"), (1, u "LANGUAGE"), (0, u "VERSION"), (5, u "request"), (0, u "(ILjava/util/Map;[B)Lcom/example/topiq/topiq/remoting/RemotingCommand;"), (1, u "oneway"), (0, u "(ILjava/util/Map;)Lcom/example/topiq/topiq/remoting/RemotingCommand;"), (1, u "response"), (0, u "(ILjava/lang/String;Ljava/util/Map;[B)Lcom/example/topiq/topiq/remoting/RemotingCommand;"), (9, u "isOneway")] 52

def k3c0 : Code := { maxStack := 2, maxLocals := 9, code := prog_30_method_1_code, exceptionTable := #[], attributes := #[] }
def k3m0 : Method := { name := "<init>", desc := "(ILjava/lang/String;IIILjava/lang/String;Ljava/util/Map;[B)V", sig := { parameters := [.int, (.object "java/lang/String"), .int, .int, .int, (.object "java/lang/String"), (.object "java/util/Map"), (.array .byte)], returnType := none }, accessFlags := 1, code := some k3c0 }
def k3c1 : Code := { maxStack := 10, maxLocals := 3, code := prog_30_method_2_code, exceptionTable := #[], attributes := #[] }
def k3m1 : Method := { name := "request", desc := "(ILjava/util/Map;[B)Lcom/example/topiq/topiq/remoting/RemotingCommand;", sig := { parameters := [.int, (.object "java/util/Map"), (.array .byte)], returnType := some (.object "com/example/topiq/topiq/remoting/RemotingCommand") }, accessFlags := 9, code := some k3c1 }
def k3c2 : Code := { maxStack := 10, maxLocals := 2, code := prog_30_method_3_code, exceptionTable := #[], attributes := #[] }
def k3m2 : Method := { name := "oneway", desc := "(ILjava/util/Map;)Lcom/example/topiq/topiq/remoting/RemotingCommand;", sig := { parameters := [.int, (.object "java/util/Map")], returnType := some (.object "com/example/topiq/topiq/remoting/RemotingCommand") }, accessFlags := 9, code := some k3c2 }
def k3c3 : Code := { maxStack := 10, maxLocals := 4, code := prog_30_method_4_code, exceptionTable := #[], attributes := #[] }
def k3m3 : Method := { name := "response", desc := "(ILjava/lang/String;Ljava/util/Map;[B)Lcom/example/topiq/topiq/remoting/RemotingCommand;", sig := { parameters := [.int, (.object "java/lang/String"), (.object "java/util/Map"), (.array .byte)], returnType := some (.object "com/example/topiq/topiq/remoting/RemotingCommand") }, accessFlags := 9, code := some k3c3 }
def k3c4 : Code := { maxStack := 2, maxLocals := 1, code := prog_30_method_9_code, exceptionTable := #[], attributes := #[] }
def k3m4 : Method := { name := "isOneway", desc := "()Z", sig := { parameters := [], returnType := some .boolean }, accessFlags := 1, code := some k3c4 }
/-- com/example/topiq/topiq/remoting/RemotingCommand -/
def k3 : Class := { plain "com/example/topiq/topiq/remoting/RemotingCommand" (some 2) with
  accessFlags := 49
  interfaces := #[]
  cf := some (fileOf pool3 8 #[] #[{ accessFlags := 1, nameIndex := 5, descriptorIndex := 41, attributes := #[] }, { accessFlags := 9, nameIndex := 150, descriptorIndex := 151, attributes := #[] }, { accessFlags := 9, nameIndex := 153, descriptorIndex := 154, attributes := #[] }, { accessFlags := 9, nameIndex := 156, descriptorIndex := 157, attributes := #[] }, { accessFlags := 1, nameIndex := 167, descriptorIndex := 77, attributes := #[] }] 49 2 #[] #[{ accessFlags := 18, nameIndex := 11, descriptorIndex := 12, attributes := #[] }, { accessFlags := 18, nameIndex := 15, descriptorIndex := 16, attributes := #[] }, { accessFlags := 18, nameIndex := 19, descriptorIndex := 12, attributes := #[] }, { accessFlags := 18, nameIndex := 22, descriptorIndex := 12, attributes := #[] }, { accessFlags := 18, nameIndex := 25, descriptorIndex := 12, attributes := #[] }, { accessFlags := 18, nameIndex := 28, descriptorIndex := 16, attributes := #[] }, { accessFlags := 18, nameIndex := 31, descriptorIndex := 32, attributes := #[] }, { accessFlags := 18, nameIndex := 35, descriptorIndex := 36, attributes := #[] }, { accessFlags := 25, nameIndex := 138, descriptorIndex := 12, attributes := #[] }, { accessFlags := 25, nameIndex := 141, descriptorIndex := 12, attributes := #[] }, { accessFlags := 26, nameIndex := 143, descriptorIndex := 16, attributes := #[] }, { accessFlags := 26, nameIndex := 144, descriptorIndex := 12, attributes := #[] }])
  fields := #[{ name := "code", type := .int, accessFlags := 18, slot := 0, constantValue := 0 }, { name := "language", type := (.object "java/lang/String"), accessFlags := 18, slot := 1, constantValue := 0 }, { name := "version", type := .int, accessFlags := 18, slot := 2, constantValue := 0 }, { name := "opaque", type := .int, accessFlags := 18, slot := 3, constantValue := 0 }, { name := "flag", type := .int, accessFlags := 18, slot := 4, constantValue := 0 }, { name := "remark", type := (.object "java/lang/String"), accessFlags := 18, slot := 5, constantValue := 0 }, { name := "extFields", type := (.object "java/util/Map"), accessFlags := 18, slot := 6, constantValue := 0 }, { name := "body", type := (.array .byte), accessFlags := 18, slot := 7, constantValue := 0 }, { name := "RESPONSE_FLAG", type := .int, accessFlags := 25, slot := 0, constantValue := 0 }, { name := "ONEWAY_FLAG", type := .int, accessFlags := 25, slot := 1, constantValue := 0 }, { name := "LANGUAGE", type := (.object "java/lang/String"), accessFlags := 26, slot := 2, constantValue := 0 }, { name := "VERSION", type := .int, accessFlags := 26, slot := 3, constantValue := 0 }]
  methods := #[k3m0, k3m1, k3m2, k3m3, k3m4]
  instanceTypes := #[.int, (.object "java/lang/String"), .int, .int, .int, (.object "java/lang/String"), (.object "java/util/Map"), (.array .byte)]
  staticTypes := #[.int, .int, (.object "java/lang/String"), .int]
  resolved := Array.replicate 220 none
  statics := none }

def pool4 : Array CpInfo := pool [(1, .class_ 2), (0, u "java/io/Serializable"), (0, .class_ 4), (0, u "java/lang/Object")] 2

/-- java/io/Serializable -/
def k4 : Class := { plain "java/io/Serializable" (some 0) with
  accessFlags := 1537
  interfaces := #[]
  cf := some (fileOf pool4 1 #[] #[] 1537 3 #[] #[])
  fields := #[]
  methods := #[]
  instanceTypes := #[]
  staticTypes := #[]
  resolved := Array.replicate 7 none
  statics := none }

def pool5 : Array CpInfo := pool [(1, .class_ 2), (0, u "java/lang/Comparable"), (0, .class_ 4), (0, u "java/lang/Object")] 7

/-- java/lang/Comparable -/
def k5 : Class := { plain "java/lang/Comparable" (some 0) with
  accessFlags := 1537
  interfaces := #[]
  cf := some (fileOf pool5 1 #[] #[] 1537 3 #[] #[])
  fields := #[]
  methods := #[]
  instanceTypes := #[]
  staticTypes := #[]
  resolved := Array.replicate 12 none
  statics := none }

def pool6 : Array CpInfo := pool [(2, .class_ 4), (1, u "java/lang/CharSequence"), (42, .class_ 48), (0, u "java/lang/CharSequence$1CodePointIterator"), (10, .class_ 60), (0, u "java/lang/CharSequence$1CharIterator"), (5, .class_ 67), (0, u "java/lang/Object")] 63

/-- java/lang/CharSequence -/
def k6 : Class := { plain "java/lang/CharSequence" (some 0) with
  accessFlags := 1537
  interfaces := #[]
  cf := some (fileOf pool6 2 #[.nestMembers #[47, 59]] #[] 1537 66 #[] #[])
  fields := #[]
  methods := #[]
  instanceTypes := #[]
  staticTypes := #[]
  resolved := Array.replicate 131 none
  statics := none }

def pool7 : Array CpInfo := pool [(1, .class_ 2), (0, u "java/lang/constant/Constable"), (0, .class_ 4), (0, u "java/lang/Object")] 6

/-- java/lang/constant/Constable -/
def k7 : Class := { plain "java/lang/constant/Constable" (some 0) with
  accessFlags := 1537
  interfaces := #[]
  cf := some (fileOf pool7 1 #[] #[] 1537 3 #[] #[])
  fields := #[]
  methods := #[]
  instanceTypes := #[]
  staticTypes := #[]
  resolved := Array.replicate 11 none
  statics := none }

def pool8 : Array CpInfo := pool [(1, .class_ 2), (0, u "java/lang/constant/ConstantDesc"), (0, .class_ 4), (0, u "java/lang/Object")] 32

/-- java/lang/constant/ConstantDesc -/
def k8 : Class := { plain "java/lang/constant/ConstantDesc" (some 0) with
  accessFlags := 1537
  interfaces := #[]
  cf := some (fileOf pool8 1 #[] #[] 1537 3 #[] #[])
  fields := #[]
  methods := #[]
  instanceTypes := #[]
  staticTypes := #[]
  resolved := Array.replicate 37 none
  statics := none }

def pool9 : Array CpInfo := pool [(2, .class_ 4), (1, u "java/lang/Object"), (0, u "<init>"), (0, u "()V"), (3, .class_ 12), (1, u "java/lang/String"), (0, u "value"), (0, u "[B"), (2, u "coder"), (0, u "B"), (2, u "hash"), (0, u "I"), (2, u "hashIsZero"), (0, u "Z"), (13, u "COMPACT_STRINGS"), (534, .class_ 576), (0, u "java/lang/CharSequence"), (22, u "CASE_INSENSITIVE_ORDER"), (0, u "Ljava/util/Comparator;"), (500, u "serialPersistentFields"), (0, u "[Ljava/io/ObjectStreamField;"), (0, .class_ 1104), (0, u "java/lang/String$CaseInsensitiveComparator"), (1, .class_ 1107), (0, u "java/io/Serializable"), (0, .class_ 1109), (0, u "java/lang/Comparable"), (0, .class_ 1111), (0, u "java/lang/constant/Constable"), (0, .class_ 1113), (0, u "java/lang/constant/ConstantDesc"), (2, u "serialVersionUID"), (0, u "J"), (3, u "REPL"), (0, u "C"), (2, u "LATIN1"), (1, u "UTF16")] 323

def k9m0 : Method := { name := "<init>", desc := "()V", sig := { parameters := [], returnType := none }, accessFlags := 1, code := none }
/-- java/lang/String -/
def k9 : Class := { plain "java/lang/String" (some 0) with
  accessFlags := 49
  interfaces := #[4, 5, 6, 7, 8]
  cf := some (fileOf pool9 10 #[.nestMembers #[1103]] #[{ accessFlags := 1, nameIndex := 5, descriptorIndex := 6, attributes := #[] }] 49 2 #[1106, 1108, 575, 1110, 1112] #[{ accessFlags := 18, nameIndex := 13, descriptorIndex := 14, attributes := #[] }, { accessFlags := 18, nameIndex := 17, descriptorIndex := 18, attributes := #[] }, { accessFlags := 2, nameIndex := 21, descriptorIndex := 22, attributes := #[] }, { accessFlags := 2, nameIndex := 25, descriptorIndex := 26, attributes := #[] }, { accessFlags := 26, nameIndex := 1116, descriptorIndex := 1117, attributes := #[] }, { accessFlags := 24, nameIndex := 40, descriptorIndex := 26, attributes := #[] }, { accessFlags := 26, nameIndex := 1101, descriptorIndex := 1102, attributes := #[] }, { accessFlags := 26, nameIndex := 1121, descriptorIndex := 1122, attributes := #[] }, { accessFlags := 25, nameIndex := 599, descriptorIndex := 600, attributes := #[] }, { accessFlags := 24, nameIndex := 1125, descriptorIndex := 18, attributes := #[] }, { accessFlags := 24, nameIndex := 1127, descriptorIndex := 18, attributes := #[] }])
  fields := #[{ name := "value", type := (.array .byte), accessFlags := 18, slot := 0, constantValue := 0 }, { name := "coder", type := .byte, accessFlags := 18, slot := 1, constantValue := 0 }, { name := "hash", type := .int, accessFlags := 2, slot := 2, constantValue := 0 }, { name := "hashIsZero", type := .boolean, accessFlags := 2, slot := 3, constantValue := 0 }, { name := "serialVersionUID", type := .long, accessFlags := 26, slot := 0, constantValue := 0 }, { name := "COMPACT_STRINGS", type := .boolean, accessFlags := 24, slot := 1, constantValue := 0 }, { name := "serialPersistentFields", type := (.array (.object "java/io/ObjectStreamField")), accessFlags := 26, slot := 2, constantValue := 0 }, { name := "REPL", type := .char, accessFlags := 26, slot := 3, constantValue := 0 }, { name := "CASE_INSENSITIVE_ORDER", type := (.object "java/util/Comparator"), accessFlags := 25, slot := 4, constantValue := 0 }, { name := "LATIN1", type := .byte, accessFlags := 24, slot := 5, constantValue := 0 }, { name := "UTF16", type := .byte, accessFlags := 24, slot := 6, constantValue := 0 }]
  methods := #[k9m0]
  instanceTypes := #[(.array .byte), .byte, .int, .boolean]
  staticTypes := #[.long, .boolean, (.array (.object "java/io/ObjectStreamField")), .char, (.object "java/util/Comparator"), .byte, .byte]
  resolved := Array.replicate 1451 none
  statics := none }

def pool10 : Array CpInfo := pool [(1, u "java/lang/Cloneable"), (0, .class_ 1), (0, u "java/lang/Object"), (0, .class_ 3)] 3

/-- java/lang/Cloneable -/
def k10 : Class := { plain "java/lang/Cloneable" (some 0) with
  accessFlags := 1537
  interfaces := #[]
  cf := some (fileOf pool10 2 #[] #[] 1537 4 #[] #[])
  fields := #[]
  methods := #[]
  instanceTypes := #[]
  staticTypes := #[]
  resolved := Array.replicate 8 none
  statics := none }

/-- the primitive byte -/
def k11 : Class := { plain "byte" none with kind := .primitive 'B', accessFlags := 0x411 }
/-- [B -/
def k12 : Class := { plain "[B" (some 0) with kind := .array 11 .byte, interfaces := #[10, 4], accessFlags := 1041 }

/-- the primitive int -/
def k13 : Class := { plain "int" none with kind := .primitive 'I', accessFlags := 0x411 }
/-- [I -/
def k14 : Class := { plain "[I" (some 0) with kind := .array 13 .int, interfaces := #[10, 4], accessFlags := 1041 }

def heap : Heap := #[]
def classes : Array Class := #[k0, k1, k2, k3, k4, k5, k6, k7, k8, k9, k10, k11, k12, k13, k14]
def interned : List (Array UInt16 × Addr) := []
def slotsUsed : Nat := 0
def theMethod : MethodId := ⟨1, 1⟩
def args0 : Array Value := #[.int 5, .int 6, .int 7, .int 8]
def aboutOver (below : List Frame) : State where
  vm := { classes := classes, interned := interned.toArray }
  heap := heap
  slotsUsed := slotsUsed
  threads := #[{ frames := .invoking theMethod args0 :: below }]
def below0 : List Frame := [.native { method := ⟨0, 0⟩, args := #[] }]
def about1 : State := aboutOver below0
def p0 : Program := .bare "" "" ""
def e0 : Env := launch0.env 0 0 0
theorem w_frames : about1.frames = Frame.invoking theMethod args0 :: below0 := rfl
set_option maxRecDepth 65536 in
theorem w_args : argsFit about1.vm theMethod args0 = true := by decide +kernel
set_option maxRecDepth 65536 in
theorem w_heap : heapFits about1 = true := by decide +kernel
set_option maxRecDepth 65536 in
theorem w_runnable : about1.curStatus? = some .runnable := by decide +kernel
set_option maxRecDepth 65536 in
theorem w_alone : about1.alone = true := by decide +kernel
set_option maxRecDepth 65536 in
theorem w_named : about1.methodNamed? x = some theMethod := by decide +kernel
set_option maxRecDepth 65536 in
theorem w_hears : about1.hears theMethod below0 = true := by decide +kernel
set_option maxRecDepth 65536 in
theorem w_ripe : about1.ripe theMethod args0 below0 = true := by decide +kernel
theorem w_running : about1.status = .running := rfl
set_option maxRecDepth 65536 in
theorem w_room : about1.hasRoom e0.platform room_1 = true :=
  launch0.hasRoom_least _ room_1 (by decide +kernel) (by decide +kernel) (by decide +kernel) (by decide +kernel) (by decide +kernel) (by decide +kernel)
theorem allAtoms_all (ts : List Jvm.Cond) (a : Array Jvm.Value) (st : Jvm.State) : (allAtoms ts).before a st = ts.all (fun c => c.before a st) := by
  induction ts with
  | nil => rfl
  | cons c t ih =>
    show (Jvm.Cond.and c (allAtoms t)).before a st = _
    rw [Jvm.Cond.before_and, ih, List.all_cons]
def words1 : List Jvm.Cond := Jvm.Cond.code x code maxLocals ret :: tables_1
/-- a 'code' word, met by the world's own term for the bytes: nothing is compared byte by byte -/
theorem code_word {y : MethodName} {bytes : ByteArray} {mx : Nat} {rt : Option FieldType} {a : Array Value} {s : State} {m : MethodId} {meth : Method} {c : Code} (h1 : s.methodNamed? y = some m) (h2 : s.vm.method? m = some meth) (h3 : meth.code = some c) (h4 : c.code = bytes)
    (h5 : (c.maxLocals == mx && c.exceptionTable.isEmpty && decide (c.maxStack ≤ mostOperands) && decide (meth.sig.returnType = rt) && !meth.locks && decide (parseMethodDescriptor y.desc = some meth.sig)) = true) : (Jvm.Cond.code y bytes mx rt).before a s = true := by
  simp only [Bool.and_eq_true, beq_iff_eq, Bool.not_eq_true', decide_eq_true_eq] at h5
  obtain ⟨⟨⟨⟨⟨g1, g2⟩, g3⟩, g4⟩, g5⟩, g6⟩ := h5
  simp [Cond.before, Cond.holds, Cond.value, h1, h2, h3, h4, g1, g2, g3, g4, g5, g6]
def isCode : Jvm.Cond → Bool
  | .code _ _ _ _ => true
  | _ => false
theorem all_split {L : List Jvm.Cond} {P : Jvm.Cond → Bool} (h1 : L.all (fun c => isCode c || P c) = true) (h2 : ∀ c ∈ L.filter isCode, P c = true) : L.all P = true := by
  refine List.all_eq_true.mpr fun c hc => ?_
  have h := List.all_eq_true.mp h1 c hc
  rcases Bool.eq_false_or_eq_true (isCode c) with hi | hi
  · exact h2 c (List.mem_filter.mpr ⟨hc, hi⟩)
  · simpa [hi] using h
set_option maxRecDepth 65536 in
theorem w_c0 : (Jvm.Cond.code x code maxLocals ret).before args0 about1 = true := code_word (m := ⟨1, 1⟩) (meth := k1m1) (c := k1c1) (by decide +kernel) rfl rfl rfl (by decide +kernel)
set_option maxRecDepth 65536 in
theorem w_c1 : (Jvm.Cond.code ({ cls := "com/example/topiq/topiq/remoting/RemotingCommand", name := "<init>", desc := "(ILjava/lang/String;IIILjava/lang/String;Ljava/util/Map;[B)V" } : Jvm.MethodName) prog_30_method_1_code (9 : Nat) (Option.none : Option Jvm.ClassFile.FieldType)).before args0 about1 = true := code_word (m := ⟨3, 0⟩) (meth := k3m0) (c := k3c0) (by decide +kernel) rfl rfl rfl (by decide +kernel)
set_option maxRecDepth 65536 in
theorem w_c2 : (Jvm.Cond.code ({ cls := "java/lang/Record", name := "<init>", desc := "()V" } : Jvm.MethodName) jdk_30_method_1_code (1 : Nat) (Option.none : Option Jvm.ClassFile.FieldType)).before args0 about1 = true := code_word (m := ⟨2, 0⟩) (meth := k2m0) (c := k2c0) (by decide +kernel) rfl rfl rfl (by decide +kernel)
set_option maxRecDepth 65536 in
theorem w_c3 : (Jvm.Cond.code ({ cls := "java/lang/Object", name := "<init>", desc := "()V" } : Jvm.MethodName) object_method_1_code (1 : Nat) (Option.none : Option Jvm.ClassFile.FieldType)).before args0 about1 = true := code_word (m := ⟨0, 0⟩) (meth := k0m0) (c := k0c0) (by decide +kernel) rfl rfl rfl (by decide +kernel)
set_option maxRecDepth 65536 in
theorem w_c4 : (Jvm.Cond.code ({ cls := "com/example/topiq/topiq/remoting/RemotingCommand", name := "isOneway", desc := "()Z" } : Jvm.MethodName) prog_30_method_9_code (1 : Nat) (Option.some Jvm.ClassFile.FieldType.boolean)).before args0 about1 = true := code_word (m := ⟨3, 4⟩) (meth := k3m4) (c := k3c4) (by decide +kernel) rfl rfl rfl (by decide +kernel)
set_option maxRecDepth 65536 in
theorem w_c5 : (Jvm.Cond.code ({ cls := "com/example/topiq/topiq/remoting/RemotingCommand", name := "oneway", desc := "(ILjava/util/Map;)Lcom/example/topiq/topiq/remoting/RemotingCommand;" } : Jvm.MethodName) prog_30_method_3_code (2 : Nat) (Option.some (Jvm.ClassFile.FieldType.object "com/example/topiq/topiq/remoting/RemotingCommand"))).before args0 about1 = true := code_word (m := ⟨3, 2⟩) (meth := k3m2) (c := k3c2) (by decide +kernel) rfl rfl rfl (by decide +kernel)
set_option maxRecDepth 65536 in
theorem w_c6 : (Jvm.Cond.code ({ cls := "com/example/topiq/topiq/remoting/RemotingCommand", name := "request", desc := "(ILjava/util/Map;[B)Lcom/example/topiq/topiq/remoting/RemotingCommand;" } : Jvm.MethodName) prog_30_method_2_code (3 : Nat) (Option.some (Jvm.ClassFile.FieldType.object "com/example/topiq/topiq/remoting/RemotingCommand"))).before args0 about1 = true := code_word (m := ⟨3, 1⟩) (meth := k3m1) (c := k3c1) (by decide +kernel) rfl rfl rfl (by decide +kernel)
set_option maxRecDepth 65536 in
theorem w_c7 : (Jvm.Cond.code ({ cls := "com/example/topiq/topiq/remoting/RemotingCommand", name := "response", desc := "(ILjava/lang/String;Ljava/util/Map;[B)Lcom/example/topiq/topiq/remoting/RemotingCommand;" } : Jvm.MethodName) prog_30_method_4_code (4 : Nat) (Option.some (Jvm.ClassFile.FieldType.object "com/example/topiq/topiq/remoting/RemotingCommand"))).before args0 about1 = true := code_word (m := ⟨3, 3⟩) (meth := k3m3) (c := k3c3) (by decide +kernel) rfl rfl rfl (by decide +kernel)
def codes1 : List Jvm.Cond := [Jvm.Cond.code x code maxLocals ret, Jvm.Cond.code ({ cls := "com/example/topiq/topiq/remoting/RemotingCommand", name := "<init>", desc := "(ILjava/lang/String;IIILjava/lang/String;Ljava/util/Map;[B)V" } : Jvm.MethodName) prog_30_method_1_code (9 : Nat) (Option.none : Option Jvm.ClassFile.FieldType), Jvm.Cond.code ({ cls := "java/lang/Record", name := "<init>", desc := "()V" } : Jvm.MethodName) jdk_30_method_1_code (1 : Nat) (Option.none : Option Jvm.ClassFile.FieldType), Jvm.Cond.code ({ cls := "java/lang/Object", name := "<init>", desc := "()V" } : Jvm.MethodName) object_method_1_code (1 : Nat) (Option.none : Option Jvm.ClassFile.FieldType), Jvm.Cond.code ({ cls := "com/example/topiq/topiq/remoting/RemotingCommand", name := "isOneway", desc := "()Z" } : Jvm.MethodName) prog_30_method_9_code (1 : Nat) (Option.some Jvm.ClassFile.FieldType.boolean), Jvm.Cond.code ({ cls := "com/example/topiq/topiq/remoting/RemotingCommand", name := "oneway", desc := "(ILjava/util/Map;)Lcom/example/topiq/topiq/remoting/RemotingCommand;" } : Jvm.MethodName) prog_30_method_3_code (2 : Nat) (Option.some (Jvm.ClassFile.FieldType.object "com/example/topiq/topiq/remoting/RemotingCommand")), Jvm.Cond.code ({ cls := "com/example/topiq/topiq/remoting/RemotingCommand", name := "request", desc := "(ILjava/util/Map;[B)Lcom/example/topiq/topiq/remoting/RemotingCommand;" } : Jvm.MethodName) prog_30_method_2_code (3 : Nat) (Option.some (Jvm.ClassFile.FieldType.object "com/example/topiq/topiq/remoting/RemotingCommand")), Jvm.Cond.code ({ cls := "com/example/topiq/topiq/remoting/RemotingCommand", name := "response", desc := "(ILjava/lang/String;Ljava/util/Map;[B)Lcom/example/topiq/topiq/remoting/RemotingCommand;" } : Jvm.MethodName) prog_30_method_4_code (4 : Nat) (Option.some (Jvm.ClassFile.FieldType.object "com/example/topiq/topiq/remoting/RemotingCommand"))]
set_option maxRecDepth 65536 in
theorem codes_eq : words1.filter isCode = codes1 := rfl
theorem w_codes : ∀ c ∈ words1.filter isCode, c.before args0 about1 = true := by
  rw [codes_eq]
  intro c hc
  simp only [codes1, List.mem_cons, List.not_mem_nil, or_false] at hc
  rcases hc with rfl | rfl | rfl | rfl | rfl | rfl | rfl | rfl
  · exact w_c0
  · exact w_c1
  · exact w_c2
  · exact w_c3
  · exact w_c4
  · exact w_c5
  · exact w_c6
  · exact w_c7
set_option maxRecDepth 65536 in
theorem w_t1 : (words1.take 24).all (fun c => isCode c || c.before args0 about1) = true := by decide +kernel
set_option maxRecDepth 65536 in
theorem w_t2 : ((words1.drop 24).take 24).all (fun c => isCode c || c.before args0 about1) = true := by decide +kernel
set_option maxRecDepth 65536 in
theorem w_t3 : ((words1.drop 24).drop 24).all (fun c => isCode c || c.before args0 about1) = true := by decide +kernel
theorem w_tables : (allAtoms (Jvm.Cond.code x code maxLocals ret :: tables_1)).before args0 about1 = true := by
  rw [allAtoms_all]
  show words1.all (fun c => c.before args0 about1) = true
  refine all_split ?_ w_codes
  rw [← List.take_append_drop 24 words1, List.all_append, w_t1, ← List.take_append_drop 24 (words1.drop 24), List.all_append, w_t2, w_t3]
  rfl
set_option maxRecDepth 65536 in
theorem w_case : (Jvm.Cond.and given_1 narrow_1).before args0 about1 = true := by decide +kernel
theorem w_applies : (headSpec (Jvm.Cond.code x code maxLocals ret :: tables_1) room_1).applies x e0.platform about1 = true :=
  (Spec.applies_iff w_frames).mpr ⟨w_running, w_runnable, w_alone, w_named, w_hears, w_ripe, w_room, w_tables⟩
theorem atStart : AtStart classFile x code maxLocals ret World_1 tables_1 room_1 Calls_1 rest_1 Pre_1 launch0 p0 e0 about1 theMethod args0 below0 :=
  ⟨lists_1, trivial, launch0.admits_env _ _ _, launch0.least_env, fairChoices_fair.cas, fairChoices_fair.clock, w_frames, w_args, w_heap, w_applies, trivial, trivial, w_case⟩
end start1
theorem witness_1 : WitnessClaimed_1 := ⟨start1.p0, start1.e0, start1.about1, start1.theMethod, start1.args0, start1.below0, start1.atStart⟩
end Jvm.Pilot.@@N@@
