import JvmDerived
import JvmDerived.Pilot.@@N@@Statement
import JvmDerived.Pilot.@@N@@Code
set_option linter.unusedVariables false
set_option linter.unusedSimpArgs false
namespace Jvm.Pilot.@@N@@
open Jvm Jvm.ClassFile Sem Op Lib Jvm.Free Jvm.Stand Jvm.LawKit Jvm.RoadKit Bundle Jvm.Pilot.@@N@@.Jvm.D
/-! own_kit: a walk as 'what is left to do' (Go), contracts (Con), calls and returns in that form -/
/-- from F the run comes to an end of which P holds -/
def Go (tb : Tables) (e : Env) (below : List Frame) (P : Outcome → State → Prop) (F : State) : Prop :=
  ∃ s₂ o, Steps tb e below F s₂ ∧ s₂.status = .running ∧ Ended s₂ below o ∧ P o s₂
theorem Go.step {tb : Tables} {e : Env} {below : List Frame} {P : Outcome → State → Prop} {A B : State} (h : ∀ t, Steps tb e below B t → Steps tb e below A t) (k : Go tb e below P B) : Go tb e below P A := by
  obtain ⟨s₂, o, h1, h2, h3, h4⟩ := k
  exact ⟨s₂, o, h _ h1, h2, h3, h4⟩
theorem Go.via {tb : Tables} {e : Env} {below : List Frame} {P : Outcome → State → Prop} {A B : State} (h : Steps tb e below A B) (k : Go tb e below P B) : Go tb e below P A :=
  Go.step (fun t q => h.trans q) k
/-- how a walk ends: it returns v, Q holds of v, the heap and the places written; at most C cells and S slots were made -/
def EndsAs (s : State) (C S : Nat) (Q : Option Value → Heap → List Loc → Prop) (o : Outcome) (U : State) : Prop :=
  ∃ v L, o = .returned v ∧ Q v U.heap L ∧ FrameEnd s o U L C S
/-- the contract of a body at arguments 'as' and heap h0 -/
abbrev Con (l : Launch) (Z : State) (y : MethodName) (bytes : ByteArray) (mx : Nat) (ret : Option FieldType) (ws : List Jvm.Cond) (rm : Room) (as : Array Value) (h0 : Heap) (Q : Option Value → Heap → List Loc → Prop) : Prop :=
  MetFree l y (head1 (Jvm.Cond.code y bytes mx ret :: ws) rm) (fun a U => a = as ∧ Z.Warmed39 U.vm ∧ U.heap = h0) (fun _ _ _ _ _ => True) (fun _ U o U' => ∃ v L, o = .returned v ∧ Q v U'.heap L ∧ FrameEnd U o U' L rm.cells rm.slots)
theorem Con.of {l : Launch} {Z : State} {y : MethodName} {bytes : ByteArray} {mx : Nat} {ret : Option FieldType} {ws : List Jvm.Cond} {rm : Room} {as : Array Value} {h0 : Heap} {Q : Option Value → Heap → List Loc → Prop} (hpl : plainFor y = true)
    (body : ∀ (p : Program) (e : Env) (s : State) (m : MethodId) (below : List Frame) (meth : Method) (c : Code) (s₁ : State), Z.Warmed39 s.vm → p.tables.exec = Jvm.exec → c.code = bytes → c.maxLocals = mx → s.vm.findClass y.cls = some m.cls → meth.sig.returnType = ret → meth.locks = false → meth.name = y.name →
      Stand p l e rm s m as below meth c s₁ [] 0 0 → s₁.heap = h0 → Go p.tables e below (EndsAs s rm.cells rm.slots Q) (s₁.setTop (entryFrame m as mx))) :
    Con l Z y bytes mx ret ws rm as h0 Q := by
  refine MetFree.of_bodySF hpl hisR ?_
  intro p e s m args below meth c s₁ Bd hml0 hP hK
  obtain ⟨rfl, hZ, hh⟩ := hP
  exact body p e s m below meth c s₁ hZ Bd.exec Bd.bytes hml0 (findClass_of_methodNamed Bd.named) Bd.returns Bd.notSynchronized (name_of_methodNamed Bd.named Bd.method).1 (Stand.of_body Bd) (by rw [← hh, Bd.state]; rfl)
section Kit
variable {p : Program} {l : Launch} {e : Env} {R : Room} {s : State} {m : MethodId} {args : Array Value} {below : List Frame} {meth : Method} {c : Code} {T : State} {locs : List Loc} {cells slots : Nat} {Z : State} {a0 : Array Value} {h : Heap}
theorem leafO (X : Stand p l e R s m args below meth c T locs cells slots) (hx : p.tables.exec = Jvm.exec) {t : FieldType} (hret : meth.sig.returnType = some t) (hlk : meth.locks = false) {pc : Nat} {Ls : Array Slot} {w : Value} {i : Instr} {rest : List Value} (hn : narrow t w = w)
    (hi : (i = .ireturn ∧ (t = .int ∨ t = .boolean ∨ t = .byte ∨ t = .char ∨ t = .short) ∧ ∃ z, w = .int z) ∨ (i = .lreturn ∧ t = .long ∧ ∃ z, w = .long z) ∨ (i = .dreturn ∧ t = .double ∧ ∃ z, w = .double z) ∨ (i = .freturn ∧ t = .float ∧ ∃ z, w = .float z) ∨ (i = .areturn ∧ t.isReference = true ∧ w.isRef = true))
    (hd : decode c.code pc = .ok (i, 1)) {Q : Option Value → Heap → List Loc → Prop} {C S : Nat} (hQ : Q (some w) T.heap locs) (hC : cells ≤ C) (hS : slots ≤ S) :
    Go p.tables e below (EndsAs s C S Q) (T.setTop (mkF m pc Ls (w :: rest))) := by
  obtain ⟨fs, hr, hrun, hended, hW, hsame⟩ := X.leave (v := some w) (fun h => by rw [hret] at h; cases h) hlk
  exact ⟨_, _, retOut X hx hret hn hi hd hr, hrun, hended, _, _, rfl, hQ, ⟨_, rfl⟩, hW, hsame.mono hC hS⟩
theorem leafI (X : Stand p l e R s m args below meth c T locs cells slots) (hx : p.tables.exec = Jvm.exec) (hret : meth.sig.returnType = some .int) (hlk : meth.locks = false) {pc : Nat} {Ls : Array Slot} {z : Int32} {rest : List Value}
    (hd : decode c.code pc = .ok (.ireturn, 1)) {Q : Option Value → Heap → List Loc → Prop} {C S : Nat} (hQ : Q (some (.int z)) T.heap locs) (hC : cells ≤ C) (hS : slots ≤ S) :
    Go p.tables e below (EndsAs s C S Q) (T.setTop (mkF m pc Ls (.int z :: rest))) :=
  leafO X hx hret hlk rfl (Or.inl ⟨rfl, Or.inl rfl, _, rfl⟩) hd hQ hC hS
theorem leafJ (X : Stand p l e R s m args below meth c T locs cells slots) (hx : p.tables.exec = Jvm.exec) (hret : meth.sig.returnType = some .long) (hlk : meth.locks = false) {pc : Nat} {Ls : Array Slot} {z : Int64} {rest : List Value}
    (hd : decode c.code pc = .ok (.lreturn, 1)) {Q : Option Value → Heap → List Loc → Prop} {C S : Nat} (hQ : Q (some (.long z)) T.heap locs) (hC : cells ≤ C) (hS : slots ≤ S) :
    Go p.tables e below (EndsAs s C S Q) (T.setTop (mkF m pc Ls (.long z :: rest))) :=
  leafO X hx hret hlk rfl (Or.inr (Or.inl ⟨rfl, rfl, _, rfl⟩)) hd hQ hC hS
theorem leafA (X : Stand p l e R s m args below meth c T locs cells slots) (hx : p.tables.exec = Jvm.exec) {t : FieldType} (hret : meth.sig.returnType = some t) (ht : t.isReference = true) (hlk : meth.locks = false) {pc : Nat} {Ls : Array Slot} {w : Value} {rest : List Value} (hw : w.isRef = true) (hn : narrow t w = w)
    (hd : decode c.code pc = .ok (.areturn, 1)) {Q : Option Value → Heap → List Loc → Prop} {C S : Nat} (hQ : Q (some w) T.heap locs) (hC : cells ≤ C) (hS : slots ≤ S) :
    Go p.tables e below (EndsAs s C S Q) (T.setTop (mkF m pc Ls (w :: rest))) :=
  leafO X hx hret hlk hn (Or.inr (Or.inr (Or.inr (Or.inr ⟨rfl, ht, hw⟩)))) hd hQ hC hS
theorem leafN (X : Stand p l e R s m args below meth c T locs cells slots) (hx : p.tables.exec = Jvm.exec) {t : FieldType} (hret : meth.sig.returnType = some t) (ht : t = .boolean ∨ t = .byte ∨ t = .char ∨ t = .short) (hlk : meth.locks = false) {pc : Nat} {Ls : Array Slot} {z w : Int32} {rest : List Value} (hw : nar t z = w)
    (hd : decode c.code pc = .ok (.ireturn, 1)) {Q : Option Value → Heap → List Loc → Prop} {C S : Nat} (hQ : Q (some (.int w)) T.heap locs) (hC : cells ≤ C) (hS : slots ≤ S) :
    Go p.tables e below (EndsAs s C S Q) (T.setTop (mkF m pc Ls (.int z :: rest))) := by
  subst hw
  obtain ⟨fs, hr, hrun, hended, hW, hsame⟩ := X.leave (v := some (.int (nar t z))) (fun h => by rw [hret] at h; cases h) hlk
  exact ⟨_, _, retN X hx hret ht hd hr, hrun, hended, _, _, rfl, hQ, ⟨_, rfl⟩, hW, hsame.mono hC hS⟩
theorem leafV (X : Stand p l e R s m args below meth c T locs cells slots) (hx : p.tables.exec = Jvm.exec) (hret : meth.sig.returnType = none) (hlk : meth.locks = false) {pc : Nat} {Ls : Array Slot}
    (hd : decode c.code pc = .ok (.return_, 1)) {Q : Option Value → Heap → List Loc → Prop} {C S : Nat} (hQ : Q none T.heap locs) (hC : cells ≤ C) (hS : slots ≤ S) :
    Go p.tables e below (EndsAs s C S Q) (T.setTop (mkF m pc Ls [])) := by
  obtain ⟨fs, hr, hrun, hended, hW, hsame⟩ := X.leave (v := none) (fun _ => rfl) hlk
  exact ⟨_, _, X.returnOut hx hret hd hr, hrun, hended, _, _, rfl, hQ, ⟨_, rfl⟩, hW, hsame.mono hC hS⟩
theorem goS (X : Stand p l e R s m args below meth c T locs cells slots) (hx : p.tables.exec = Jvm.exec) (hZ : Z.Warmed39 s.vm) {own : String} {index : Nat} {y : MethodName} {bytes : ByteArray} {maxL : Nat} {ret : Option FieldType} (hown : s.vm.findClass own = some m.cls)
    (w1 : (Jvm.Cond.methodLink own index y).before a0 Z = true) (w2 : (Jvm.Cond.static y).before a0 Z = true) (w3 : (Jvm.Cond.initialized y.cls).before a0 Z = true) (w4 : (Jvm.Cond.code y bytes maxL ret).before a0 Z = true)
    (hy : y.cls ≠ "java/lang/invoke/MethodHandle" ∧ y.cls ≠ "java/lang/invoke/VarHandle") {rm : Room} {as : Array Value} {Qc : Option Value → Heap → List Loc → Prop} (hM : Con l Z y bytes maxL ret [] rm as h Qc) (eT : T.heap = h)
    {pc : Nat} {Ls : Array Slot} {st : List Value} (hsize : Ls.size = c.maxLocals) (argsL rest : List Value) (has : argsL.toArray = as) {ps : List FieldType} {r : Option FieldType} (hpd : parseMethodDescriptor y.desc = some ⟨ps, r⟩) (hlen : argsL.length = ps.length) (hst : st = argsL.reverse ++ rest)
    (W : Nat) (hW : (rest.map fun v => v.category).sum = W) (hd : decode c.code pc = .ok (.invokestatic index, 3)) (hf : rm.frames + 1 ≤ R.frames) (hl : W + (maxL + 11) + rm.locals ≤ R.locals) (hc : cells + rm.cells ≤ R.cells) (hs : slots + rm.slots ≤ R.slots) {P : Outcome → State → Prop}
    (k : ∀ (T' : State) (L : List Loc) (v : Option Value), Qc v T'.heap L → Stand p l e R s m args below meth c T' (locs ++ L) (cells + rm.cells) (slots + rm.slots) → Go p.tables e below P (T'.setTop (mkF m (pc + 3) Ls (v.toList ++ rest)))) :
    Go p.tables e below P (T.setTop (mkF m pc Ls st)) := by
  subst hst
  obtain ⟨v, _, ⟨T', L', k', n'⟩, -, X', ⟨L, hQ, q1, q2, q3⟩, st⟩ := Jvm.LawKit.callS X hx (y := y) hown (mvT hZ w1) (mvT hZ w2) (mvT hZ w3) (mvT hZ w4) hy (backOf (W := W) hM hZ w4 w3 hf hl) (g := mkF m pc Ls (argsL.reverse ++ rest)) rfl hsize (argsL := argsL) (rest := rest) (lenOf hpd hlen) rfl (by show 2 * 0 + _ ≤ _; omega) hd (fun _ _ => ⟨has, eT, hc, hs⟩)
  dsimp only [Pt.U, Pt.locs, Pt.cells, Pt.slots] at X' q1 q2 q3 st hQ
  subst q1 q2 q3
  exact Go.step st (k T' L v hQ X')
theorem goI (X : Stand p l e R s m args below meth c T locs cells slots) (hx : p.tables.exec = Jvm.exec) (hZ : Z.Warmed39 s.vm) {own : String} {index : Nat} {y : MethodName} {bytes : ByteArray} {maxL : Nat} (hy1 : y.name = "<init>") (hown : s.vm.findClass own = some m.cls)
    (w1 : (Jvm.Cond.methodLink own index y).before a0 Z = true) (w2 : (Jvm.Cond.instanceMethod y).before a0 Z = true) (w3 : (Jvm.Cond.initialized y.cls).before a0 Z = true) (w4 : (Jvm.Cond.code y bytes maxL none).before a0 Z = true)
    (hy : y.cls ≠ "java/lang/invoke/MethodHandle" ∧ y.cls ≠ "java/lang/invoke/VarHandle") {rm : Room} {as : Array Value} {Qc : Option Value → Heap → List Loc → Prop} (hM : Con l Z y bytes maxL none [] rm as h Qc) (eT : T.heap = h)
    {pc : Nat} {Ls : Array Slot} {st : List Value} (hsize : Ls.size = c.maxLocals) (a : Addr) (argsL rest : List Value) (has : (Value.ref a :: argsL).toArray = as) {ps : List FieldType} {r : Option FieldType} (hpd : parseMethodDescriptor y.desc = some ⟨ps, r⟩) (hlen : argsL.length = ps.length) (hst : st = argsL.reverse ++ .ref a :: rest)
    (W : Nat) (hW : (rest.map fun v => v.category).sum = W) (hd : decode c.code pc = .ok (.invokespecial index, 3)) (hf : rm.frames + 1 ≤ R.frames) (hl : W + (maxL + 11) + rm.locals ≤ R.locals) (hc : cells + rm.cells ≤ R.cells) (hs : slots + rm.slots ≤ R.slots) {P : Outcome → State → Prop}
    (k : ∀ (T' : State) (L : List Loc) (v : Option Value), Qc v T'.heap L → Stand p l e R s m args below meth c T' (locs ++ L) (cells + rm.cells) (slots + rm.slots) → Go p.tables e below P (T'.setTop (mkF m (pc + 3) Ls (v.toList ++ rest)))) :
    Go p.tables e below P (T.setTop (mkF m pc Ls st)) := by
  subst hst
  obtain ⟨v, _, ⟨T', L', k', n'⟩, -, X', ⟨L, hQ, q1, q2, q3⟩, st⟩ := X.specialBack hx (y := y) hy1 hown (mvT hZ w1) (mvT hZ w2) (mvT hZ w4) hy (backOf (W := W) hM hZ w4 w3 hf hl) (g := mkF m pc Ls (argsL.reverse ++ .ref a :: rest)) rfl hsize (Steps.refl _) (a := a) (argsL := argsL) (rest := rest) (lenOf hpd hlen) rfl (by show 2 * 0 + _ ≤ _; omega) hd (fun _ _ => ⟨has, eT, hc, hs⟩)
  dsimp only [Pt.U, Pt.locs, Pt.cells, Pt.slots] at X' q1 q2 q3 st hQ
  subst q1 q2 q3
  exact Go.via st (k T' L v hQ X')
theorem goV (X : Stand p l e R s m args below meth c T locs cells slots) (hx : p.tables.exec = Jvm.exec) (hZ : Z.Warmed39 s.vm) {own C : String} {index : Nat} {y z : MethodName} {bytes : ByteArray} {maxL : Nat} {ret : Option FieldType} (hown : s.vm.findClass own = some m.cls)
    (w1 : (Jvm.Cond.methodLink own index y).before a0 Z = true) (w2 : (Jvm.Cond.declares y).before a0 Z = true) (hnf : NotFace s y) (w5 : (Jvm.Cond.selects C y z).before a0 Z = true) (w6 : (Jvm.Cond.instanceMethod z).before a0 Z = true) (w3 : (Jvm.Cond.initialized z.cls).before a0 Z = true) (w4 : (Jvm.Cond.code z bytes maxL ret).before a0 Z = true)
    (hy : y.cls ≠ "java/lang/invoke/MethodHandle" ∧ y.cls ≠ "java/lang/invoke/VarHandle") {rm : Room} {as : Array Value} {Qc : Option Value → Heap → List Loc → Prop} (hM : Con l Z z bytes maxL ret [] rm as h Qc) (eT : T.heap = h)
    {a : Addr} (E : Exa Z h a C) {pc : Nat} {Ls : Array Slot} {st : List Value} (hsize : Ls.size = c.maxLocals) (argsL rest : List Value) (has : (Value.ref a :: argsL).toArray = as) {ps : List FieldType} {r : Option FieldType} (hpd : parseMethodDescriptor y.desc = some ⟨ps, r⟩) (hlen : argsL.length = ps.length) (hst : st = argsL.reverse ++ .ref a :: rest)
    (W : Nat) (hW : (rest.map fun v => v.category).sum = W) (hd : decode c.code pc = .ok (.invokevirtual index, 3)) (hf : rm.frames + 1 ≤ R.frames) (hl : W + (maxL + 11) + rm.locals ≤ R.locals) (hc : cells + rm.cells ≤ R.cells) (hs : slots + rm.slots ≤ R.slots) {P : Outcome → State → Prop}
    (k : ∀ (T' : State) (L : List Loc) (v : Option Value), Qc v T'.heap L → Stand p l e R s m args below meth c T' (locs ++ L) (cells + rm.cells) (slots + rm.slots) → Go p.tables e below P (T'.setTop (mkF m (pc + 3) Ls (v.toList ++ rest)))) :
    Go p.tables e below P (T.setTop (mkF m pc Ls st)) := by
  subst hst
  obtain ⟨cq, kq, qa, qb, qc⟩ := isOf hZ eT E
  obtain ⟨v, _, ⟨T', L', k', n'⟩, -, X', ⟨L, hQ, q1, q2, q3⟩, st⟩ := X.virtualBack hx (y := y) (z := z) hown (mvT hZ w1) (mvT hZ w2) hnf (mvT hZ w5) (mvT hZ w6) hy (backOf (W := W) hM hZ w4 w3 hf hl) qa qc (g := mkF m pc Ls (argsL.reverse ++ .ref a :: rest)) rfl hsize (Steps.refl _) (argsL := argsL) (rest := rest) (lenOf hpd hlen) rfl (by show 2 * 0 + _ ≤ _; omega) hd (fun _ _ => ⟨has, eT, hc, hs⟩)
  dsimp only [Pt.U, Pt.locs, Pt.cells, Pt.slots] at X' q1 q2 q3 st hQ
  subst q1 q2 q3
  exact Go.via st (k T' L v hQ X')
end Kit

/-! a virtual call of a method that a class above declares -/
section Kit2
variable {p : Program} {l : Launch} {e : Env} {R : Room} {s : State} {m : MethodId} {args : Array Value} {below : List Frame} {meth : Method} {c : Code} {T : State} {locs : List Loc} {cells slots : Nat} {Z : State} {a0 : Array Value} {h : Heap}
theorem goVU (X : Stand p l e R s m args below meth c T locs cells slots) (hx : p.tables.exec = Jvm.exec) (hZ : Z.Warmed39 s.vm) {own C owner : String} {index : Nat} {y z : MethodName} {bytes : ByteArray} {maxL : Nat} {ret : Option FieldType} (hown : s.vm.findClass own = some m.cls)
    (w1 : (Jvm.Cond.methodLink own index y).before a0 Z = true) (w7 : (Jvm.Cond.sameMethod y.cls owner y.name y.desc).before a0 Z = true) (w2 : (Jvm.Cond.declares ⟨owner, y.name, y.desc⟩).before a0 Z = true) (ho : owner ≠ "java/lang/invoke/MethodHandle" ∧ owner ≠ "java/lang/invoke/VarHandle") (w5 : (Jvm.Cond.selects C y z).before a0 Z = true) (w6 : (Jvm.Cond.instanceMethod z).before a0 Z = true) (w3 : (Jvm.Cond.initialized z.cls).before a0 Z = true) (w4 : (Jvm.Cond.code z bytes maxL ret).before a0 Z = true)
    {rm : Room} {as : Array Value} {Qc : Option Value → Heap → List Loc → Prop} (hM : Con l Z z bytes maxL ret [] rm as h Qc) (eT : T.heap = h)
    {a : Addr} (E : Exa Z h a C) {pc : Nat} {Ls : Array Slot} {st : List Value} (hsize : Ls.size = c.maxLocals) (argsL rest : List Value) (has : (Value.ref a :: argsL).toArray = as) {ps : List FieldType} {r : Option FieldType} (hpd : parseMethodDescriptor y.desc = some ⟨ps, r⟩) (hlen : argsL.length = ps.length) (hst : st = argsL.reverse ++ .ref a :: rest)
    (W : Nat) (hW : (rest.map fun v => v.category).sum = W) (hd : decode c.code pc = .ok (.invokevirtual index, 3)) (hf : rm.frames + 1 ≤ R.frames) (hl : W + (maxL + 11) + rm.locals ≤ R.locals) (hc : cells + rm.cells ≤ R.cells) (hs : slots + rm.slots ≤ R.slots) {P : Outcome → State → Prop}
    (k : ∀ (T' : State) (L : List Loc) (v : Option Value), Qc v T'.heap L → Stand p l e R s m args below meth c T' (locs ++ L) (cells + rm.cells) (slots + rm.slots) → Go p.tables e below P (T'.setTop (mkF m (pc + 3) Ls (v.toList ++ rest)))) :
    Go p.tables e below P (T.setTop (mkF m pc Ls st)) := by
  subst hst
  obtain ⟨cq, kq, qa, qb, qc⟩ := isOf hZ eT E
  obtain ⟨v, _, ⟨T', L', k', n'⟩, -, X', ⟨L, hQ, q1, q2, q3⟩, st⟩ := X.virtualBackUp hx (x := y) (y := z) hown (mvT hZ w1) (mvT hZ w7) (mvT hZ w2) ho (mvT hZ w5) (mvT hZ w6) (backOf (W := W) hM hZ w4 w3 hf hl) qa qc (g := mkF m pc Ls (argsL.reverse ++ .ref a :: rest)) rfl hsize (Steps.refl _) (argsL := argsL) (rest := rest) (lenOf hpd hlen) rfl (by show 2 * 0 + _ ≤ _; omega) hd (fun _ _ => ⟨has, eT, hc, hs⟩)
  dsimp only [Pt.U, Pt.locs, Pt.cells, Pt.slots] at X' q1 q2 q3 st hQ
  subst q1 q2 q3
  exact Go.via st (k T' L v hQ X')
end Kit2
/-! plain facts -/
def OpAt (Z : State) (h : Heap) (n : String) (k : Int32) (b : Addr) : Prop := Sta Z h "com/example/topiq/topiq/sql/SqlExpression$Operator" n "Lcom/example/topiq/topiq/sql/SqlExpression$Operator;" (.ref b) ∧ Exa Z h b "com/example/topiq/topiq/sql/SqlExpression$Operator" ∧ Fld Z h b "java/lang/Enum" "ordinal" "I" (.int k)
def Ops (Z : State) (h : Heap) (b0 b1 b2 b3 b4 b5 : Addr) : Prop := OpAt Z h "EQUAL" 0 b0 ∧ OpAt Z h "NOT_EQUAL" 1 b1 ∧ OpAt Z h "LESS" 2 b2 ∧ OpAt Z h "LESS_OR_EQUAL" 3 b3 ∧ OpAt Z h "GREATER" 4 b4 ∧ OpAt Z h "GREATER_OR_EQUAL" 5 b5
theorem own_irem (x y : Int32) : x - (x / y) * y = x % y := by
  apply Int32.toInt_inj.mp
  have h1 := (x % y).le_toInt
  have h2 := (x % y).toInt_lt
  have e : (x - (x / y) * y).toInt = ((x % y).toInt).bmod (2 ^ 32) := by
    rw [Int32.toInt_sub, Int32.toInt_mul, Int32.toInt_div, Int32.toInt_mod, Int.tmod_def, Int.bmod_mul_bmod, Int.sub_bmod_bmod, Int.mul_comm y.toInt]
  rw [e]
  exact Int.bmod_eq_of_le_mul_two (by omega) (by omega)
theorem own_six (a : Int32) : let k := ((a &&& (2147483647 : Int32)) - ((a &&& (2147483647 : Int32)) / (6 : Int32)) * (6 : Int32)); k = 0 ∨ k = 1 ∨ k = 2 ∨ k = 3 ∨ k = 4 ∨ k = 5 := by
  intro k
  have p0 : 0 ≤ (a &&& (2147483647 : Int32)).toInt := (c_andS a 2147483647).2.2 (by decide)
  have e : k = (a &&& (2147483647 : Int32)) % 6 := own_irem _ _
  have h2 := (c_irem (a &&& (2147483647 : Int32)) 6 6 rfl).1 p0
  rw [← e] at h2
  have g : ∀ n : Int32, k.toInt = n.toInt → k = n := fun n q => Int32.toInt_inj.mp q
  have h3 : k.toInt = 0 ∨ k.toInt = 1 ∨ k.toInt = 2 ∨ k.toInt = 3 ∨ k.toInt = 4 ∨ k.toInt = 5 := by omega
  rcases h3 with h | h | h | h | h | h
  · exact Or.inl (g 0 h)
  · exact Or.inr (Or.inl (g 1 h))
  · exact Or.inr (Or.inr (Or.inl (g 2 h)))
  · exact Or.inr (Or.inr (Or.inr (Or.inl (g 3 h))))
  · exact Or.inr (Or.inr (Or.inr (Or.inr (Or.inl (g 4 h)))))
  · exact Or.inr (Or.inr (Or.inr (Or.inr (Or.inr (g 5 h)))))

theorem d1_0 : decode method_3_code 0 = .ok (.iload_n 0, 1) := by decide +kernel
theorem d1_1 : decode method_3_code 1 = .ok (.ifCond .ne 7, 3) := by decide +kernel
theorem d1_4 : decode method_3_code 4 = .ok (.getstatic 24, 3) := by decide +kernel
theorem d1_7 : decode method_3_code 7 = .ok (.areturn, 1) := by decide +kernel
theorem d1_8 : decode method_3_code 8 = .ok (.iload_n 0, 1) := by decide +kernel
theorem d1_9 : decode method_3_code 9 = .ok (.iconst 1, 1) := by decide +kernel
theorem d1_10 : decode method_3_code 10 = .ok (.if_icmp .ne 7, 3) := by decide +kernel
theorem d1_13 : decode method_3_code 13 = .ok (.getstatic 28, 3) := by decide +kernel
theorem d1_16 : decode method_3_code 16 = .ok (.areturn, 1) := by decide +kernel
theorem d1_17 : decode method_3_code 17 = .ok (.iload_n 0, 1) := by decide +kernel
theorem d1_18 : decode method_3_code 18 = .ok (.iconst 2, 1) := by decide +kernel
theorem d1_19 : decode method_3_code 19 = .ok (.if_icmp .ne 7, 3) := by decide +kernel
theorem d1_22 : decode method_3_code 22 = .ok (.getstatic 31, 3) := by decide +kernel
theorem d1_25 : decode method_3_code 25 = .ok (.areturn, 1) := by decide +kernel
theorem d1_26 : decode method_3_code 26 = .ok (.iload_n 0, 1) := by decide +kernel
theorem d1_27 : decode method_3_code 27 = .ok (.iconst 3, 1) := by decide +kernel
theorem d1_28 : decode method_3_code 28 = .ok (.if_icmp .ne 7, 3) := by decide +kernel
theorem d1_31 : decode method_3_code 31 = .ok (.getstatic 34, 3) := by decide +kernel
theorem d1_34 : decode method_3_code 34 = .ok (.areturn, 1) := by decide +kernel
theorem d1_35 : decode method_3_code 35 = .ok (.iload_n 0, 1) := by decide +kernel
theorem d1_36 : decode method_3_code 36 = .ok (.iconst 4, 1) := by decide +kernel
theorem d1_37 : decode method_3_code 37 = .ok (.if_icmp .ne 7, 3) := by decide +kernel
theorem d1_40 : decode method_3_code 40 = .ok (.getstatic 37, 3) := by decide +kernel
theorem d1_43 : decode method_3_code 43 = .ok (.areturn, 1) := by decide +kernel
theorem d1_44 : decode method_3_code 44 = .ok (.getstatic 40, 3) := by decide +kernel
theorem d1_47 : decode method_3_code 47 = .ok (.areturn, 1) := by decide +kernel
theorem pn1 : plainFor (⟨"com/example/topiq/topiq/sql/OperatorOrderingPinLaw", "pick", "(I)Lcom/example/topiq/topiq/sql/SqlExpression$Operator;"⟩ : MethodName) = true := plainFor_of_name (by first | (simp [plainName, overriddenIn]; done) | decide +kernel)
theorem pd1 : parseMethodDescriptor "(I)Lcom/example/topiq/topiq/sql/SqlExpression$Operator;" = some ⟨[.int], some (.object "com/example/topiq/topiq/sql/SqlExpression$Operator")⟩ := by decide +kernel
theorem ef1 (m : MethodId) (x0 : Int32) : entryFrame m #[(.int x0)] 1 = mkF m 0 #[.val (.int x0)] [] := by first | (simp [entryFrame, mkF, argsToLocals, Value.category]; done) | rfl
theorem d2_0 : decode prog_58_method_5_code 0 = .ok (.aload_n 0, 1) := by decide +kernel
theorem d2_1 : decode prog_58_method_5_code 1 = .ok (.getstatic 3, 3) := by decide +kernel
theorem d2_4 : decode prog_58_method_5_code 4 = .ok (.if_acmp .eq 14, 3) := by decide +kernel
theorem d2_7 : decode prog_58_method_5_code 7 = .ok (.aload_n 0, 1) := by decide +kernel
theorem d2_8 : decode prog_58_method_5_code 8 = .ok (.getstatic 7, 3) := by decide +kernel
theorem d2_11 : decode prog_58_method_5_code 11 = .ok (.if_acmp .eq 7, 3) := by decide +kernel
theorem d2_14 : decode prog_58_method_5_code 14 = .ok (.iconst 1, 1) := by decide +kernel
theorem d2_15 : decode prog_58_method_5_code 15 = .ok (.goto 4, 3) := by decide +kernel
theorem d2_18 : decode prog_58_method_5_code 18 = .ok (.iconst 0, 1) := by decide +kernel
theorem d2_19 : decode prog_58_method_5_code 19 = .ok (.ireturn, 1) := by decide +kernel
theorem pn2 : plainFor (⟨"com/example/topiq/topiq/sql/SqlExpression$Operator", "ordering", "()Z"⟩ : MethodName) = true := plainFor_of_name (by first | (simp [plainName, overriddenIn]; done) | decide +kernel)
theorem pd2 : parseMethodDescriptor "()Z" = some ⟨[], some .boolean⟩ := by decide +kernel
theorem ef2 (m : MethodId) (x0 : Addr) : entryFrame m #[(.ref x0)] 1 = mkF m 0 #[.val (.ref x0)] [] := by first | (simp [entryFrame, mkF, argsToLocals, Value.category]; done) | rfl
theorem d3_0 : decode prog_58_method_6_code 0 = .ok (.aload_n 0, 1) := by decide +kernel
theorem d3_1 : decode prog_58_method_6_code 1 = .ok (.invokevirtual 45, 3) := by decide +kernel
theorem d3_4 : decode prog_58_method_6_code 4 = .ok (.tableswitch 40 0 5 #[50, 62, 74, 86, 98, 110], 40) := by decide +kernel
theorem d3_44 : decode prog_58_method_6_code 44 = .ok (.new 49, 3) := by decide +kernel
theorem d3_47 : decode prog_58_method_6_code 47 = .ok (.dup, 1) := by decide +kernel
theorem d3_48 : decode prog_58_method_6_code 48 = .ok (.aconst_null, 1) := by decide +kernel
theorem d3_49 : decode prog_58_method_6_code 49 = .ok (.aconst_null, 1) := by decide +kernel
theorem d3_50 : decode prog_58_method_6_code 50 = .ok (.invokespecial 51, 3) := by decide +kernel
theorem d3_53 : decode prog_58_method_6_code 53 = .ok (.athrow, 1) := by decide +kernel
theorem d3_54 : decode prog_58_method_6_code 54 = .ok (.iload_n 1, 1) := by decide +kernel
theorem d3_55 : decode prog_58_method_6_code 55 = .ok (.ifCond .ne 7, 3) := by decide +kernel
theorem d3_58 : decode prog_58_method_6_code 58 = .ok (.iconst 1, 1) := by decide +kernel
theorem d3_59 : decode prog_58_method_6_code 59 = .ok (.goto 64, 3) := by decide +kernel
theorem d3_62 : decode prog_58_method_6_code 62 = .ok (.iconst 0, 1) := by decide +kernel
theorem d3_63 : decode prog_58_method_6_code 63 = .ok (.goto 60, 3) := by decide +kernel
theorem d3_66 : decode prog_58_method_6_code 66 = .ok (.iload_n 1, 1) := by decide +kernel
theorem d3_67 : decode prog_58_method_6_code 67 = .ok (.ifCond .eq 7, 3) := by decide +kernel
theorem d3_70 : decode prog_58_method_6_code 70 = .ok (.iconst 1, 1) := by decide +kernel
theorem d3_71 : decode prog_58_method_6_code 71 = .ok (.goto 52, 3) := by decide +kernel
theorem d3_74 : decode prog_58_method_6_code 74 = .ok (.iconst 0, 1) := by decide +kernel
theorem d3_75 : decode prog_58_method_6_code 75 = .ok (.goto 48, 3) := by decide +kernel
theorem d3_78 : decode prog_58_method_6_code 78 = .ok (.iload_n 1, 1) := by decide +kernel
theorem d3_79 : decode prog_58_method_6_code 79 = .ok (.ifCond .ge 7, 3) := by decide +kernel
theorem d3_82 : decode prog_58_method_6_code 82 = .ok (.iconst 1, 1) := by decide +kernel
theorem d3_83 : decode prog_58_method_6_code 83 = .ok (.goto 40, 3) := by decide +kernel
theorem d3_86 : decode prog_58_method_6_code 86 = .ok (.iconst 0, 1) := by decide +kernel
theorem d3_87 : decode prog_58_method_6_code 87 = .ok (.goto 36, 3) := by decide +kernel
theorem d3_90 : decode prog_58_method_6_code 90 = .ok (.iload_n 1, 1) := by decide +kernel
theorem d3_91 : decode prog_58_method_6_code 91 = .ok (.ifCond .gt 7, 3) := by decide +kernel
theorem d3_94 : decode prog_58_method_6_code 94 = .ok (.iconst 1, 1) := by decide +kernel
theorem d3_95 : decode prog_58_method_6_code 95 = .ok (.goto 28, 3) := by decide +kernel
theorem d3_98 : decode prog_58_method_6_code 98 = .ok (.iconst 0, 1) := by decide +kernel
theorem d3_99 : decode prog_58_method_6_code 99 = .ok (.goto 24, 3) := by decide +kernel
theorem d3_102 : decode prog_58_method_6_code 102 = .ok (.iload_n 1, 1) := by decide +kernel
theorem d3_103 : decode prog_58_method_6_code 103 = .ok (.ifCond .le 7, 3) := by decide +kernel
theorem d3_106 : decode prog_58_method_6_code 106 = .ok (.iconst 1, 1) := by decide +kernel
theorem d3_107 : decode prog_58_method_6_code 107 = .ok (.goto 16, 3) := by decide +kernel
theorem d3_110 : decode prog_58_method_6_code 110 = .ok (.iconst 0, 1) := by decide +kernel
theorem d3_111 : decode prog_58_method_6_code 111 = .ok (.goto 12, 3) := by decide +kernel
theorem d3_114 : decode prog_58_method_6_code 114 = .ok (.iload_n 1, 1) := by decide +kernel
theorem d3_115 : decode prog_58_method_6_code 115 = .ok (.ifCond .lt 7, 3) := by decide +kernel
theorem d3_118 : decode prog_58_method_6_code 118 = .ok (.iconst 1, 1) := by decide +kernel
theorem d3_119 : decode prog_58_method_6_code 119 = .ok (.goto 4, 3) := by decide +kernel
theorem d3_122 : decode prog_58_method_6_code 122 = .ok (.iconst 0, 1) := by decide +kernel
theorem d3_123 : decode prog_58_method_6_code 123 = .ok (.ireturn, 1) := by decide +kernel
theorem pn3 : plainFor (⟨"com/example/topiq/topiq/sql/SqlExpression$Operator", "holds", "(I)Z"⟩ : MethodName) = true := plainFor_of_name (by first | (simp [plainName, overriddenIn]; done) | decide +kernel)
theorem pd3 : parseMethodDescriptor "(I)Z" = some ⟨[.int], some .boolean⟩ := by decide +kernel
theorem ef3 (m : MethodId) (x0 : Addr) (x1 : Int32) : entryFrame m #[(.ref x0), (.int x1)] 2 = mkF m 0 #[.val (.ref x0), .val (.int x1)] [] := by first | (simp [entryFrame, mkF, argsToLocals, Value.category]; done) | rfl
theorem d4_0 : decode jdk_37_method_2_code 0 = .ok (.aload_n 0, 1) := by decide +kernel
theorem d4_1 : decode jdk_37_method_2_code 1 = .ok (.getfield 7, 3) := by decide +kernel
theorem d4_4 : decode jdk_37_method_2_code 4 = .ok (.ireturn, 1) := by decide +kernel
theorem pn4 : plainFor (⟨"java/lang/Enum", "ordinal", "()I"⟩ : MethodName) = true := plainFor_of_name (by first | (simp [plainName, overriddenIn]; done) | decide +kernel)
theorem pd4 : parseMethodDescriptor "()I" = some ⟨[], some .int⟩ := by decide +kernel
theorem ef4 (m : MethodId) (x0 : Addr) : entryFrame m #[(.ref x0)] 1 = mkF m 0 #[.val (.ref x0)] [] := by first | (simp [entryFrame, mkF, argsToLocals, Value.category]; done) | rfl
set_option maxRecDepth 65536 in
set_option maxHeartbeats 40000000 in
theorem rm4 (l : Launch) (Z : State) (a0 : Array Value) (hw : ∀ d ∈ tables_1, d.before a0 Z = true) (ws : List Jvm.Cond) (x0 : Addr) (h0 : Heap) (u : Int32) (F0 : Fld Z h0 x0 "java/lang/Enum" "ordinal" "I" (.int u)) : Con l Z (⟨"java/lang/Enum", "ordinal", "()I"⟩ : MethodName) jdk_37_method_2_code 1 (some .int) ws ({ frames := 0, cells := 0, slots := 0, locals := 0 } : Room) #[(.ref x0)] h0 (fun v h L => v = some (.int u) ∧ h = h0 ∧ L = []) := by
  refine Con.of pn4 fun p e s m below meth c s₁ hZ hx hby hml hown hret hlk hnm X0 e0 => ?_
  rw [ef4]
  show Go _ _ _ _ (s₁.setTop (mkF m 0 #[.val (.ref x0)] []))
  refine Go.step (fun _ k => XS.aloadN X0.here hx rfl (hb hby d4_0) rfl rfl k) ?_
  show Go _ _ _ _ (s₁.setTop (mkF m 1 #[.val (.ref x0)] [(.ref x0)]))
  obtain ⟨T1, X1, e1, st1⟩ := getF X0 hx hZ hown (host := "") (Or.inl (hw _ (List.mem_of_getElem? (i := 26) rfl))) Via.refl e0 F0 (g := (mkF m 1 #[.val (.ref x0)] [(.ref x0)])) rfl rfl (hb hby d4_1)
  refine Go.step st1 ?_
  show Go _ _ _ _ (T1.setTop (mkF m 4 #[.val (.ref x0)] [(.int u)]))
  exact leafI X1 hx hret hlk (hb hby d4_4) ⟨rfl, e1, rfl⟩ (by decide) (by decide)
set_option maxRecDepth 65536 in
set_option maxHeartbeats 40000000 in
theorem rp0 (l : Launch) (Z : State) (a0 : Array Value) (hw : ∀ d ∈ tables_1, d.before a0 Z = true) (ws : List Jvm.Cond)  (h0 : Heap) (b0 b1 b2 b3 b4 b5 : Addr) (hO : Ops Z h0 b0 b1 b2 b3 b4 b5) : Con l Z (⟨"com/example/topiq/topiq/sql/OperatorOrderingPinLaw", "pick", "(I)Lcom/example/topiq/topiq/sql/SqlExpression$Operator;"⟩ : MethodName) method_3_code 1 (some (.object "com/example/topiq/topiq/sql/SqlExpression$Operator")) ws ({ frames := 0, cells := 0, slots := 0, locals := 0 } : Room) #[(.int (0 : Int32))] h0 (fun v h L => v = some (.ref b0) ∧ h = h0 ∧ L = []) := by
  refine Con.of pn1 fun p e s m below meth c s₁ hZ hx hby hml hown hret hlk hnm X0 e0 => ?_
  rw [ef1]
  obtain ⟨⟨S0, E0, F0⟩, ⟨S1, E1, F1⟩, ⟨S2, E2, F2⟩, ⟨S3, E3, F3⟩, ⟨S4, E4, F4⟩, ⟨S5, E5, F5⟩⟩ := hO
  show Go _ _ _ _ (s₁.setTop (mkF m 0 #[.val (.int (0 : Int32))] []))
  refine Go.step (fun _ k => XS.iloadN X0.here hx rfl (hb hby d1_0) rfl k) ?_
  show Go _ _ _ _ (s₁.setTop (mkF m 1 #[.val (.int (0 : Int32))] [(.int (0 : Int32))]))
  refine Go.step (fun _ k => XS.ifNo X0.here hx rfl (hb hby d1_1) rfl ((if0 _ _).trans (teq (by decide : ((0 : Int32) = (0 : Int32)))).2) k) ?_
  show Go _ _ _ _ (s₁.setTop (mkF m 4 #[.val (.int (0 : Int32))] []))
  obtain ⟨T1, X1, e1, st1⟩ := getS2 X0 hx hZ hown (host := "") (Or.inl (hw _ (List.mem_of_getElem? (i := 5) rfl))) Via.refl e0 S0 (g := (mkF m 4 #[.val (.int (0 : Int32))] [])) rfl (hb hby d1_4)
  refine Go.step st1 ?_
  show Go _ _ _ _ (T1.setTop (mkF m 7 #[.val (.int (0 : Int32))] [(.ref b0)]))
  exact leafA X1 hx hret rfl hlk rfl rfl (hb hby d1_7) ⟨rfl, e1, rfl⟩ (by decide) (by decide)
set_option maxRecDepth 65536 in
set_option maxHeartbeats 40000000 in
theorem ro0 (l : Launch) (Z : State) (a0 : Array Value) (hw : ∀ d ∈ tables_1, d.before a0 Z = true) (ws : List Jvm.Cond)  (h0 : Heap) (b0 b1 b2 b3 b4 b5 : Addr) (hO : Ops Z h0 b0 b1 b2 b3 b4 b5) : Con l Z (⟨"com/example/topiq/topiq/sql/SqlExpression$Operator", "ordering", "()Z"⟩ : MethodName) prog_58_method_5_code 1 (some .boolean) ws ({ frames := 0, cells := 0, slots := 0, locals := 0 } : Room) #[(.ref b0)] h0 (fun v h L => v = some (.int (0 : Int32)) ∧ h = h0 ∧ L = []) := by
  refine Con.of pn2 fun p e s m below meth c s₁ hZ hx hby hml hown hret hlk hnm X0 e0 => ?_
  rw [ef2]
  obtain ⟨⟨S0, E0, F0⟩, ⟨S1, E1, F1⟩, ⟨S2, E2, F2⟩, ⟨S3, E3, F3⟩, ⟨S4, E4, F4⟩, ⟨S5, E5, F5⟩⟩ := hO
  show Go _ _ _ _ (s₁.setTop (mkF m 0 #[.val (.ref b0)] []))
  refine Go.step (fun _ k => XS.aloadN X0.here hx rfl (hb hby d2_0) rfl rfl k) ?_
  show Go _ _ _ _ (s₁.setTop (mkF m 1 #[.val (.ref b0)] [(.ref b0)]))
  obtain ⟨T1, X1, e1, st1⟩ := getS2 X0 hx hZ hown (host := "") (Or.inl (hw _ (List.mem_of_getElem? (i := 13) rfl))) Via.refl e0 S0 (g := (mkF m 1 #[.val (.ref b0)] [(.ref b0)])) rfl (hb hby d2_1)
  refine Go.step st1 ?_
  show Go _ _ _ _ (T1.setTop (mkF m 4 #[.val (.ref b0)] [(.ref b0), (.ref b0)]))
  refine Go.step (fun _ k => Jvm.RoadKit.acmp (g := (mkF m 4 #[.val (.ref b0)] [(.ref b0), (.ref b0)])) X1 hx rfl rfl rfl (pc0 := 4) (pc' := 18) (same := true) rfl (hb hby d2_4) rfl (decide_eq_true rfl) (by decide) (by decide) k) ?_
  show Go _ _ _ _ (T1.setTop (mkF m 18 #[.val (.ref b0)] []))
  refine Go.step (fun _ k => XS.iconst X1.here hx rfl (hb hby d2_18) k) ?_
  show Go _ _ _ _ (T1.setTop (mkF m 19 #[.val (.ref b0)] [(.int (0 : Int32))]))
  exact leafN X1 hx (t := .boolean) hret (by simp) hlk (w := (0 : Int32)) rfl (hb hby d2_19) ⟨rfl, e1, rfl⟩ (by decide) (by decide)
set_option maxRecDepth 65536 in
set_option maxHeartbeats 40000000 in
theorem rh0_m (l : Launch) (Z : State) (a0 : Array Value) (hw : ∀ d ∈ tables_1, d.before a0 Z = true) (ws : List Jvm.Cond)  (h0 : Heap) (b0 b1 b2 b3 b4 b5 : Addr) (hO : Ops Z h0 b0 b1 b2 b3 b4 b5) : Con l Z (⟨"com/example/topiq/topiq/sql/SqlExpression$Operator", "holds", "(I)Z"⟩ : MethodName) prog_58_method_6_code 2 (some .boolean) ws ({ frames := 1, cells := 0, slots := 0, locals := 12 } : Room) #[(.ref b0), (.int (-1 : Int32))] h0 (fun v h L => v = some (.int (0 : Int32)) ∧ h = h0 ∧ L = []) := by
  refine Con.of pn3 fun p e s m below meth c s₁ hZ hx hby hml hown hret hlk hnm X0 e0 => ?_
  rw [ef3]
  obtain ⟨⟨S0, E0, F0⟩, ⟨S1, E1, F1⟩, ⟨S2, E2, F2⟩, ⟨S3, E3, F3⟩, ⟨S4, E4, F4⟩, ⟨S5, E5, F5⟩⟩ := hO
  show Go _ _ _ _ (s₁.setTop (mkF m 0 #[.val (.ref b0), .val (.int (-1 : Int32))] []))
  refine Go.step (fun _ k => XS.aloadN X0.here hx rfl (hb hby d3_0) rfl rfl k) ?_
  show Go _ _ _ _ (s₁.setTop (mkF m 1 #[.val (.ref b0), .val (.int (-1 : Int32))] [(.ref b0)]))
  refine goVU X0 hx hZ (owner := "java/lang/Enum") hown (hw _ (List.mem_of_getElem? (i := 19) rfl)) (hw _ (List.mem_of_getElem? (i := 20) rfl)) (hw _ (List.mem_of_getElem? (i := 21) rfl)) (by decide) (hw _ (List.mem_of_getElem? (i := 23) rfl)) (hw _ (List.mem_of_getElem? (i := 22) rfl)) (hw _ (List.mem_of_getElem? (i := 24) rfl)) (hw _ (List.mem_of_getElem? (i := 25) rfl)) (rm4 l Z a0 hw [] b0 h0 (0 : Int32) F0) e0 E0 (by rw [hml]; rfl) [] [] rfl pd4 rfl rfl 0 rfl (hb hby d3_1) (by decide) (by decide) (by decide) (by decide) fun T1 L1 v1 q1 X1 => ?_
  obtain ⟨rfl, e1, rfl⟩ := q1
  rw [List.append_nil] at X1
  show Go _ _ _ _ (T1.setTop (mkF m 4 #[.val (.ref b0), .val (.int (-1 : Int32))] [(.int (0 : Int32))]))
  refine Go.step (fun _ k => XS.tswIn X1.here hx rfl (pc0 := 4) (pc' := 54) rfl (hb hby d3_4) rfl (by decide) (o := 50) (by decide) (by decide) (by decide) k) ?_
  show Go _ _ _ _ (T1.setTop (mkF m 54 #[.val (.ref b0), .val (.int (-1 : Int32))] []))
  refine Go.step (fun _ k => XS.iloadN X1.here hx rfl (hb hby d3_54) rfl k) ?_
  show Go _ _ _ _ (T1.setTop (mkF m 55 #[.val (.ref b0), .val (.int (-1 : Int32))] [(.int (-1 : Int32))]))
  refine Go.step (fun _ k => XS.ifYes X1.here hx rfl (pc0 := 55) (pc' := 62) rfl (hb hby d3_55) rfl ((if0 _ _).trans (feq (by decide : ¬ ((-1 : Int32) = (0 : Int32)))).2) (by decide) (by decide) k) ?_
  show Go _ _ _ _ (T1.setTop (mkF m 62 #[.val (.ref b0), .val (.int (-1 : Int32))] []))
  refine Go.step (fun _ k => XS.iconst X1.here hx rfl (hb hby d3_62) k) ?_
  show Go _ _ _ _ (T1.setTop (mkF m 63 #[.val (.ref b0), .val (.int (-1 : Int32))] [(.int (0 : Int32))]))
  refine Go.step (fun _ k => XS.goto X1.here hx rfl (pc0 := 63) (pc' := 123) rfl (hb hby d3_63) (by decide) (by decide) k) ?_
  show Go _ _ _ _ (T1.setTop (mkF m 123 #[.val (.ref b0), .val (.int (-1 : Int32))] [(.int (0 : Int32))]))
  exact leafN X1 hx (t := .boolean) hret (by simp) hlk (w := (0 : Int32)) rfl (hb hby d3_123) ⟨rfl, e1, rfl⟩ (by decide) (by decide)
set_option maxRecDepth 65536 in
set_option maxHeartbeats 40000000 in
theorem rh0_p (l : Launch) (Z : State) (a0 : Array Value) (hw : ∀ d ∈ tables_1, d.before a0 Z = true) (ws : List Jvm.Cond)  (h0 : Heap) (b0 b1 b2 b3 b4 b5 : Addr) (hO : Ops Z h0 b0 b1 b2 b3 b4 b5) : Con l Z (⟨"com/example/topiq/topiq/sql/SqlExpression$Operator", "holds", "(I)Z"⟩ : MethodName) prog_58_method_6_code 2 (some .boolean) ws ({ frames := 1, cells := 0, slots := 0, locals := 12 } : Room) #[(.ref b0), (.int (1 : Int32))] h0 (fun v h L => v = some (.int (0 : Int32)) ∧ h = h0 ∧ L = []) := by
  refine Con.of pn3 fun p e s m below meth c s₁ hZ hx hby hml hown hret hlk hnm X0 e0 => ?_
  rw [ef3]
  obtain ⟨⟨S0, E0, F0⟩, ⟨S1, E1, F1⟩, ⟨S2, E2, F2⟩, ⟨S3, E3, F3⟩, ⟨S4, E4, F4⟩, ⟨S5, E5, F5⟩⟩ := hO
  show Go _ _ _ _ (s₁.setTop (mkF m 0 #[.val (.ref b0), .val (.int (1 : Int32))] []))
  refine Go.step (fun _ k => XS.aloadN X0.here hx rfl (hb hby d3_0) rfl rfl k) ?_
  show Go _ _ _ _ (s₁.setTop (mkF m 1 #[.val (.ref b0), .val (.int (1 : Int32))] [(.ref b0)]))
  refine goVU X0 hx hZ (owner := "java/lang/Enum") hown (hw _ (List.mem_of_getElem? (i := 19) rfl)) (hw _ (List.mem_of_getElem? (i := 20) rfl)) (hw _ (List.mem_of_getElem? (i := 21) rfl)) (by decide) (hw _ (List.mem_of_getElem? (i := 23) rfl)) (hw _ (List.mem_of_getElem? (i := 22) rfl)) (hw _ (List.mem_of_getElem? (i := 24) rfl)) (hw _ (List.mem_of_getElem? (i := 25) rfl)) (rm4 l Z a0 hw [] b0 h0 (0 : Int32) F0) e0 E0 (by rw [hml]; rfl) [] [] rfl pd4 rfl rfl 0 rfl (hb hby d3_1) (by decide) (by decide) (by decide) (by decide) fun T1 L1 v1 q1 X1 => ?_
  obtain ⟨rfl, e1, rfl⟩ := q1
  rw [List.append_nil] at X1
  show Go _ _ _ _ (T1.setTop (mkF m 4 #[.val (.ref b0), .val (.int (1 : Int32))] [(.int (0 : Int32))]))
  refine Go.step (fun _ k => XS.tswIn X1.here hx rfl (pc0 := 4) (pc' := 54) rfl (hb hby d3_4) rfl (by decide) (o := 50) (by decide) (by decide) (by decide) k) ?_
  show Go _ _ _ _ (T1.setTop (mkF m 54 #[.val (.ref b0), .val (.int (1 : Int32))] []))
  refine Go.step (fun _ k => XS.iloadN X1.here hx rfl (hb hby d3_54) rfl k) ?_
  show Go _ _ _ _ (T1.setTop (mkF m 55 #[.val (.ref b0), .val (.int (1 : Int32))] [(.int (1 : Int32))]))
  refine Go.step (fun _ k => XS.ifYes X1.here hx rfl (pc0 := 55) (pc' := 62) rfl (hb hby d3_55) rfl ((if0 _ _).trans (feq (by decide : ¬ ((1 : Int32) = (0 : Int32)))).2) (by decide) (by decide) k) ?_
  show Go _ _ _ _ (T1.setTop (mkF m 62 #[.val (.ref b0), .val (.int (1 : Int32))] []))
  refine Go.step (fun _ k => XS.iconst X1.here hx rfl (hb hby d3_62) k) ?_
  show Go _ _ _ _ (T1.setTop (mkF m 63 #[.val (.ref b0), .val (.int (1 : Int32))] [(.int (0 : Int32))]))
  refine Go.step (fun _ k => XS.goto X1.here hx rfl (pc0 := 63) (pc' := 123) rfl (hb hby d3_63) (by decide) (by decide) k) ?_
  show Go _ _ _ _ (T1.setTop (mkF m 123 #[.val (.ref b0), .val (.int (1 : Int32))] [(.int (0 : Int32))]))
  exact leafN X1 hx (t := .boolean) hret (by simp) hlk (w := (0 : Int32)) rfl (hb hby d3_123) ⟨rfl, e1, rfl⟩ (by decide) (by decide)
set_option maxRecDepth 65536 in
set_option maxHeartbeats 40000000 in
theorem rp1 (l : Launch) (Z : State) (a0 : Array Value) (hw : ∀ d ∈ tables_1, d.before a0 Z = true) (ws : List Jvm.Cond)  (h0 : Heap) (b0 b1 b2 b3 b4 b5 : Addr) (hO : Ops Z h0 b0 b1 b2 b3 b4 b5) : Con l Z (⟨"com/example/topiq/topiq/sql/OperatorOrderingPinLaw", "pick", "(I)Lcom/example/topiq/topiq/sql/SqlExpression$Operator;"⟩ : MethodName) method_3_code 1 (some (.object "com/example/topiq/topiq/sql/SqlExpression$Operator")) ws ({ frames := 0, cells := 0, slots := 0, locals := 0 } : Room) #[(.int (1 : Int32))] h0 (fun v h L => v = some (.ref b1) ∧ h = h0 ∧ L = []) := by
  refine Con.of pn1 fun p e s m below meth c s₁ hZ hx hby hml hown hret hlk hnm X0 e0 => ?_
  rw [ef1]
  obtain ⟨⟨S0, E0, F0⟩, ⟨S1, E1, F1⟩, ⟨S2, E2, F2⟩, ⟨S3, E3, F3⟩, ⟨S4, E4, F4⟩, ⟨S5, E5, F5⟩⟩ := hO
  show Go _ _ _ _ (s₁.setTop (mkF m 0 #[.val (.int (1 : Int32))] []))
  refine Go.step (fun _ k => XS.iloadN X0.here hx rfl (hb hby d1_0) rfl k) ?_
  show Go _ _ _ _ (s₁.setTop (mkF m 1 #[.val (.int (1 : Int32))] [(.int (1 : Int32))]))
  refine Go.step (fun _ k => XS.ifYes X0.here hx rfl (pc0 := 1) (pc' := 8) rfl (hb hby d1_1) rfl ((if0 _ _).trans (feq (by decide : ¬ ((1 : Int32) = (0 : Int32)))).2) (by decide) (by decide) k) ?_
  show Go _ _ _ _ (s₁.setTop (mkF m 8 #[.val (.int (1 : Int32))] []))
  refine Go.step (fun _ k => XS.iloadN X0.here hx rfl (hb hby d1_8) rfl k) ?_
  show Go _ _ _ _ (s₁.setTop (mkF m 9 #[.val (.int (1 : Int32))] [(.int (1 : Int32))]))
  refine Go.step (fun _ k => XS.iconst X0.here hx rfl (hb hby d1_9) k) ?_
  show Go _ _ _ _ (s₁.setTop (mkF m 10 #[.val (.int (1 : Int32))] [(.int (1 : Int32)), (.int (1 : Int32))]))
  refine Go.step (fun _ k => XS.icmpNo X0.here hx rfl (hb hby d1_10) rfl (teq (by decide : ((1 : Int32) = (1 : Int32)))).2 k) ?_
  show Go _ _ _ _ (s₁.setTop (mkF m 13 #[.val (.int (1 : Int32))] []))
  obtain ⟨T1, X1, e1, st1⟩ := getS2 X0 hx hZ hown (host := "") (Or.inl (hw _ (List.mem_of_getElem? (i := 34) rfl))) Via.refl e0 S1 (g := (mkF m 13 #[.val (.int (1 : Int32))] [])) rfl (hb hby d1_13)
  refine Go.step st1 ?_
  show Go _ _ _ _ (T1.setTop (mkF m 16 #[.val (.int (1 : Int32))] [(.ref b1)]))
  exact leafA X1 hx hret rfl hlk rfl rfl (hb hby d1_16) ⟨rfl, e1, rfl⟩ (by decide) (by decide)
set_option maxRecDepth 65536 in
set_option maxHeartbeats 40000000 in
theorem ro1 (l : Launch) (Z : State) (a0 : Array Value) (hw : ∀ d ∈ tables_1, d.before a0 Z = true) (ws : List Jvm.Cond)  (h0 : Heap) (b0 b1 b2 b3 b4 b5 : Addr) (hO : Ops Z h0 b0 b1 b2 b3 b4 b5) : Con l Z (⟨"com/example/topiq/topiq/sql/SqlExpression$Operator", "ordering", "()Z"⟩ : MethodName) prog_58_method_5_code 1 (some .boolean) ws ({ frames := 0, cells := 0, slots := 0, locals := 0 } : Room) #[(.ref b1)] h0 (fun v h L => v = some (.int (0 : Int32)) ∧ h = h0 ∧ L = []) := by
  refine Con.of pn2 fun p e s m below meth c s₁ hZ hx hby hml hown hret hlk hnm X0 e0 => ?_
  rw [ef2]
  obtain ⟨⟨S0, E0, F0⟩, ⟨S1, E1, F1⟩, ⟨S2, E2, F2⟩, ⟨S3, E3, F3⟩, ⟨S4, E4, F4⟩, ⟨S5, E5, F5⟩⟩ := hO
  show Go _ _ _ _ (s₁.setTop (mkF m 0 #[.val (.ref b1)] []))
  refine Go.step (fun _ k => XS.aloadN X0.here hx rfl (hb hby d2_0) rfl rfl k) ?_
  show Go _ _ _ _ (s₁.setTop (mkF m 1 #[.val (.ref b1)] [(.ref b1)]))
  obtain ⟨T1, X1, e1, st1⟩ := getS2 X0 hx hZ hown (host := "") (Or.inl (hw _ (List.mem_of_getElem? (i := 13) rfl))) Via.refl e0 S0 (g := (mkF m 1 #[.val (.ref b1)] [(.ref b1)])) rfl (hb hby d2_1)
  refine Go.step st1 ?_
  show Go _ _ _ _ (T1.setTop (mkF m 4 #[.val (.ref b1)] [(.ref b0), (.ref b1)]))
  refine Go.step (fun _ k => Jvm.RoadKit.acmp (g := (mkF m 4 #[.val (.ref b1)] [(.ref b0), (.ref b1)])) X1 hx rfl rfl rfl (pc0 := 4) (pc' := 7) (same := false) rfl (hb hby d2_4) rfl (decide_eq_false fun q => (Fld.ne F1 F0 (by decide)) (Value.ref.inj q)) (by decide) (by decide) k) ?_
  show Go _ _ _ _ (T1.setTop (mkF m 7 #[.val (.ref b1)] []))
  refine Go.step (fun _ k => XS.aloadN X1.here hx rfl (hb hby d2_7) rfl rfl k) ?_
  show Go _ _ _ _ (T1.setTop (mkF m 8 #[.val (.ref b1)] [(.ref b1)]))
  obtain ⟨T2, X2, e2, st2⟩ := getS2 X1 hx hZ hown (host := "") (Or.inl (hw _ (List.mem_of_getElem? (i := 30) rfl))) Via.refl e1 S1 (g := (mkF m 8 #[.val (.ref b1)] [(.ref b1)])) rfl (hb hby d2_8)
  refine Go.step st2 ?_
  show Go _ _ _ _ (T2.setTop (mkF m 11 #[.val (.ref b1)] [(.ref b1), (.ref b1)]))
  refine Go.step (fun _ k => Jvm.RoadKit.acmp (g := (mkF m 11 #[.val (.ref b1)] [(.ref b1), (.ref b1)])) X2 hx rfl rfl rfl (pc0 := 11) (pc' := 18) (same := true) rfl (hb hby d2_11) rfl (decide_eq_true rfl) (by decide) (by decide) k) ?_
  show Go _ _ _ _ (T2.setTop (mkF m 18 #[.val (.ref b1)] []))
  refine Go.step (fun _ k => XS.iconst X2.here hx rfl (hb hby d2_18) k) ?_
  show Go _ _ _ _ (T2.setTop (mkF m 19 #[.val (.ref b1)] [(.int (0 : Int32))]))
  exact leafN X2 hx (t := .boolean) hret (by simp) hlk (w := (0 : Int32)) rfl (hb hby d2_19) ⟨rfl, e2, rfl⟩ (by decide) (by decide)
set_option maxRecDepth 65536 in
set_option maxHeartbeats 40000000 in
theorem rh1_m (l : Launch) (Z : State) (a0 : Array Value) (hw : ∀ d ∈ tables_1, d.before a0 Z = true) (ws : List Jvm.Cond)  (h0 : Heap) (b0 b1 b2 b3 b4 b5 : Addr) (hO : Ops Z h0 b0 b1 b2 b3 b4 b5) : Con l Z (⟨"com/example/topiq/topiq/sql/SqlExpression$Operator", "holds", "(I)Z"⟩ : MethodName) prog_58_method_6_code 2 (some .boolean) ws ({ frames := 1, cells := 0, slots := 0, locals := 12 } : Room) #[(.ref b1), (.int (-1 : Int32))] h0 (fun v h L => v = some (.int (1 : Int32)) ∧ h = h0 ∧ L = []) := by
  refine Con.of pn3 fun p e s m below meth c s₁ hZ hx hby hml hown hret hlk hnm X0 e0 => ?_
  rw [ef3]
  obtain ⟨⟨S0, E0, F0⟩, ⟨S1, E1, F1⟩, ⟨S2, E2, F2⟩, ⟨S3, E3, F3⟩, ⟨S4, E4, F4⟩, ⟨S5, E5, F5⟩⟩ := hO
  show Go _ _ _ _ (s₁.setTop (mkF m 0 #[.val (.ref b1), .val (.int (-1 : Int32))] []))
  refine Go.step (fun _ k => XS.aloadN X0.here hx rfl (hb hby d3_0) rfl rfl k) ?_
  show Go _ _ _ _ (s₁.setTop (mkF m 1 #[.val (.ref b1), .val (.int (-1 : Int32))] [(.ref b1)]))
  refine goVU X0 hx hZ (owner := "java/lang/Enum") hown (hw _ (List.mem_of_getElem? (i := 19) rfl)) (hw _ (List.mem_of_getElem? (i := 20) rfl)) (hw _ (List.mem_of_getElem? (i := 21) rfl)) (by decide) (hw _ (List.mem_of_getElem? (i := 23) rfl)) (hw _ (List.mem_of_getElem? (i := 22) rfl)) (hw _ (List.mem_of_getElem? (i := 24) rfl)) (hw _ (List.mem_of_getElem? (i := 25) rfl)) (rm4 l Z a0 hw [] b1 h0 (1 : Int32) F1) e0 E1 (by rw [hml]; rfl) [] [] rfl pd4 rfl rfl 0 rfl (hb hby d3_1) (by decide) (by decide) (by decide) (by decide) fun T1 L1 v1 q1 X1 => ?_
  obtain ⟨rfl, e1, rfl⟩ := q1
  rw [List.append_nil] at X1
  show Go _ _ _ _ (T1.setTop (mkF m 4 #[.val (.ref b1), .val (.int (-1 : Int32))] [(.int (1 : Int32))]))
  refine Go.step (fun _ k => XS.tswIn X1.here hx rfl (pc0 := 4) (pc' := 66) rfl (hb hby d3_4) rfl (by decide) (o := 62) (by decide) (by decide) (by decide) k) ?_
  show Go _ _ _ _ (T1.setTop (mkF m 66 #[.val (.ref b1), .val (.int (-1 : Int32))] []))
  refine Go.step (fun _ k => XS.iloadN X1.here hx rfl (hb hby d3_66) rfl k) ?_
  show Go _ _ _ _ (T1.setTop (mkF m 67 #[.val (.ref b1), .val (.int (-1 : Int32))] [(.int (-1 : Int32))]))
  refine Go.step (fun _ k => XS.ifNo X1.here hx rfl (hb hby d3_67) rfl ((if0 _ _).trans (feq (by decide : ¬ ((-1 : Int32) = (0 : Int32)))).1) k) ?_
  show Go _ _ _ _ (T1.setTop (mkF m 70 #[.val (.ref b1), .val (.int (-1 : Int32))] []))
  refine Go.step (fun _ k => XS.iconst X1.here hx rfl (hb hby d3_70) k) ?_
  show Go _ _ _ _ (T1.setTop (mkF m 71 #[.val (.ref b1), .val (.int (-1 : Int32))] [(.int (1 : Int32))]))
  refine Go.step (fun _ k => XS.goto X1.here hx rfl (pc0 := 71) (pc' := 123) rfl (hb hby d3_71) (by decide) (by decide) k) ?_
  show Go _ _ _ _ (T1.setTop (mkF m 123 #[.val (.ref b1), .val (.int (-1 : Int32))] [(.int (1 : Int32))]))
  exact leafN X1 hx (t := .boolean) hret (by simp) hlk (w := (1 : Int32)) rfl (hb hby d3_123) ⟨rfl, e1, rfl⟩ (by decide) (by decide)
set_option maxRecDepth 65536 in
set_option maxHeartbeats 40000000 in
theorem rh1_p (l : Launch) (Z : State) (a0 : Array Value) (hw : ∀ d ∈ tables_1, d.before a0 Z = true) (ws : List Jvm.Cond)  (h0 : Heap) (b0 b1 b2 b3 b4 b5 : Addr) (hO : Ops Z h0 b0 b1 b2 b3 b4 b5) : Con l Z (⟨"com/example/topiq/topiq/sql/SqlExpression$Operator", "holds", "(I)Z"⟩ : MethodName) prog_58_method_6_code 2 (some .boolean) ws ({ frames := 1, cells := 0, slots := 0, locals := 12 } : Room) #[(.ref b1), (.int (1 : Int32))] h0 (fun v h L => v = some (.int (1 : Int32)) ∧ h = h0 ∧ L = []) := by
  refine Con.of pn3 fun p e s m below meth c s₁ hZ hx hby hml hown hret hlk hnm X0 e0 => ?_
  rw [ef3]
  obtain ⟨⟨S0, E0, F0⟩, ⟨S1, E1, F1⟩, ⟨S2, E2, F2⟩, ⟨S3, E3, F3⟩, ⟨S4, E4, F4⟩, ⟨S5, E5, F5⟩⟩ := hO
  show Go _ _ _ _ (s₁.setTop (mkF m 0 #[.val (.ref b1), .val (.int (1 : Int32))] []))
  refine Go.step (fun _ k => XS.aloadN X0.here hx rfl (hb hby d3_0) rfl rfl k) ?_
  show Go _ _ _ _ (s₁.setTop (mkF m 1 #[.val (.ref b1), .val (.int (1 : Int32))] [(.ref b1)]))
  refine goVU X0 hx hZ (owner := "java/lang/Enum") hown (hw _ (List.mem_of_getElem? (i := 19) rfl)) (hw _ (List.mem_of_getElem? (i := 20) rfl)) (hw _ (List.mem_of_getElem? (i := 21) rfl)) (by decide) (hw _ (List.mem_of_getElem? (i := 23) rfl)) (hw _ (List.mem_of_getElem? (i := 22) rfl)) (hw _ (List.mem_of_getElem? (i := 24) rfl)) (hw _ (List.mem_of_getElem? (i := 25) rfl)) (rm4 l Z a0 hw [] b1 h0 (1 : Int32) F1) e0 E1 (by rw [hml]; rfl) [] [] rfl pd4 rfl rfl 0 rfl (hb hby d3_1) (by decide) (by decide) (by decide) (by decide) fun T1 L1 v1 q1 X1 => ?_
  obtain ⟨rfl, e1, rfl⟩ := q1
  rw [List.append_nil] at X1
  show Go _ _ _ _ (T1.setTop (mkF m 4 #[.val (.ref b1), .val (.int (1 : Int32))] [(.int (1 : Int32))]))
  refine Go.step (fun _ k => XS.tswIn X1.here hx rfl (pc0 := 4) (pc' := 66) rfl (hb hby d3_4) rfl (by decide) (o := 62) (by decide) (by decide) (by decide) k) ?_
  show Go _ _ _ _ (T1.setTop (mkF m 66 #[.val (.ref b1), .val (.int (1 : Int32))] []))
  refine Go.step (fun _ k => XS.iloadN X1.here hx rfl (hb hby d3_66) rfl k) ?_
  show Go _ _ _ _ (T1.setTop (mkF m 67 #[.val (.ref b1), .val (.int (1 : Int32))] [(.int (1 : Int32))]))
  refine Go.step (fun _ k => XS.ifNo X1.here hx rfl (hb hby d3_67) rfl ((if0 _ _).trans (feq (by decide : ¬ ((1 : Int32) = (0 : Int32)))).1) k) ?_
  show Go _ _ _ _ (T1.setTop (mkF m 70 #[.val (.ref b1), .val (.int (1 : Int32))] []))
  refine Go.step (fun _ k => XS.iconst X1.here hx rfl (hb hby d3_70) k) ?_
  show Go _ _ _ _ (T1.setTop (mkF m 71 #[.val (.ref b1), .val (.int (1 : Int32))] [(.int (1 : Int32))]))
  refine Go.step (fun _ k => XS.goto X1.here hx rfl (pc0 := 71) (pc' := 123) rfl (hb hby d3_71) (by decide) (by decide) k) ?_
  show Go _ _ _ _ (T1.setTop (mkF m 123 #[.val (.ref b1), .val (.int (1 : Int32))] [(.int (1 : Int32))]))
  exact leafN X1 hx (t := .boolean) hret (by simp) hlk (w := (1 : Int32)) rfl (hb hby d3_123) ⟨rfl, e1, rfl⟩ (by decide) (by decide)
set_option maxRecDepth 65536 in
set_option maxHeartbeats 40000000 in
theorem rp2 (l : Launch) (Z : State) (a0 : Array Value) (hw : ∀ d ∈ tables_1, d.before a0 Z = true) (ws : List Jvm.Cond)  (h0 : Heap) (b0 b1 b2 b3 b4 b5 : Addr) (hO : Ops Z h0 b0 b1 b2 b3 b4 b5) : Con l Z (⟨"com/example/topiq/topiq/sql/OperatorOrderingPinLaw", "pick", "(I)Lcom/example/topiq/topiq/sql/SqlExpression$Operator;"⟩ : MethodName) method_3_code 1 (some (.object "com/example/topiq/topiq/sql/SqlExpression$Operator")) ws ({ frames := 0, cells := 0, slots := 0, locals := 0 } : Room) #[(.int (2 : Int32))] h0 (fun v h L => v = some (.ref b2) ∧ h = h0 ∧ L = []) := by
  refine Con.of pn1 fun p e s m below meth c s₁ hZ hx hby hml hown hret hlk hnm X0 e0 => ?_
  rw [ef1]
  obtain ⟨⟨S0, E0, F0⟩, ⟨S1, E1, F1⟩, ⟨S2, E2, F2⟩, ⟨S3, E3, F3⟩, ⟨S4, E4, F4⟩, ⟨S5, E5, F5⟩⟩ := hO
  show Go _ _ _ _ (s₁.setTop (mkF m 0 #[.val (.int (2 : Int32))] []))
  refine Go.step (fun _ k => XS.iloadN X0.here hx rfl (hb hby d1_0) rfl k) ?_
  show Go _ _ _ _ (s₁.setTop (mkF m 1 #[.val (.int (2 : Int32))] [(.int (2 : Int32))]))
  refine Go.step (fun _ k => XS.ifYes X0.here hx rfl (pc0 := 1) (pc' := 8) rfl (hb hby d1_1) rfl ((if0 _ _).trans (feq (by decide : ¬ ((2 : Int32) = (0 : Int32)))).2) (by decide) (by decide) k) ?_
  show Go _ _ _ _ (s₁.setTop (mkF m 8 #[.val (.int (2 : Int32))] []))
  refine Go.step (fun _ k => XS.iloadN X0.here hx rfl (hb hby d1_8) rfl k) ?_
  show Go _ _ _ _ (s₁.setTop (mkF m 9 #[.val (.int (2 : Int32))] [(.int (2 : Int32))]))
  refine Go.step (fun _ k => XS.iconst X0.here hx rfl (hb hby d1_9) k) ?_
  show Go _ _ _ _ (s₁.setTop (mkF m 10 #[.val (.int (2 : Int32))] [(.int (1 : Int32)), (.int (2 : Int32))]))
  refine Go.step (fun _ k => XS.icmpYes X0.here hx rfl (pc0 := 10) (pc' := 17) rfl (hb hby d1_10) rfl (feq (by decide : ¬ ((2 : Int32) = (1 : Int32)))).2 (by decide) (by decide) k) ?_
  show Go _ _ _ _ (s₁.setTop (mkF m 17 #[.val (.int (2 : Int32))] []))
  refine Go.step (fun _ k => XS.iloadN X0.here hx rfl (hb hby d1_17) rfl k) ?_
  show Go _ _ _ _ (s₁.setTop (mkF m 18 #[.val (.int (2 : Int32))] [(.int (2 : Int32))]))
  refine Go.step (fun _ k => XS.iconst X0.here hx rfl (hb hby d1_18) k) ?_
  show Go _ _ _ _ (s₁.setTop (mkF m 19 #[.val (.int (2 : Int32))] [(.int (2 : Int32)), (.int (2 : Int32))]))
  refine Go.step (fun _ k => XS.icmpNo X0.here hx rfl (hb hby d1_19) rfl (teq (by decide : ((2 : Int32) = (2 : Int32)))).2 k) ?_
  show Go _ _ _ _ (s₁.setTop (mkF m 22 #[.val (.int (2 : Int32))] []))
  obtain ⟨T1, X1, e1, st1⟩ := getS2 X0 hx hZ hown (host := "") (Or.inl (hw _ (List.mem_of_getElem? (i := 32) rfl))) Via.refl e0 S2 (g := (mkF m 22 #[.val (.int (2 : Int32))] [])) rfl (hb hby d1_22)
  refine Go.step st1 ?_
  show Go _ _ _ _ (T1.setTop (mkF m 25 #[.val (.int (2 : Int32))] [(.ref b2)]))
  exact leafA X1 hx hret rfl hlk rfl rfl (hb hby d1_25) ⟨rfl, e1, rfl⟩ (by decide) (by decide)
set_option maxRecDepth 65536 in
set_option maxHeartbeats 40000000 in
theorem ro2 (l : Launch) (Z : State) (a0 : Array Value) (hw : ∀ d ∈ tables_1, d.before a0 Z = true) (ws : List Jvm.Cond)  (h0 : Heap) (b0 b1 b2 b3 b4 b5 : Addr) (hO : Ops Z h0 b0 b1 b2 b3 b4 b5) : Con l Z (⟨"com/example/topiq/topiq/sql/SqlExpression$Operator", "ordering", "()Z"⟩ : MethodName) prog_58_method_5_code 1 (some .boolean) ws ({ frames := 0, cells := 0, slots := 0, locals := 0 } : Room) #[(.ref b2)] h0 (fun v h L => v = some (.int (1 : Int32)) ∧ h = h0 ∧ L = []) := by
  refine Con.of pn2 fun p e s m below meth c s₁ hZ hx hby hml hown hret hlk hnm X0 e0 => ?_
  rw [ef2]
  obtain ⟨⟨S0, E0, F0⟩, ⟨S1, E1, F1⟩, ⟨S2, E2, F2⟩, ⟨S3, E3, F3⟩, ⟨S4, E4, F4⟩, ⟨S5, E5, F5⟩⟩ := hO
  show Go _ _ _ _ (s₁.setTop (mkF m 0 #[.val (.ref b2)] []))
  refine Go.step (fun _ k => XS.aloadN X0.here hx rfl (hb hby d2_0) rfl rfl k) ?_
  show Go _ _ _ _ (s₁.setTop (mkF m 1 #[.val (.ref b2)] [(.ref b2)]))
  obtain ⟨T1, X1, e1, st1⟩ := getS2 X0 hx hZ hown (host := "") (Or.inl (hw _ (List.mem_of_getElem? (i := 13) rfl))) Via.refl e0 S0 (g := (mkF m 1 #[.val (.ref b2)] [(.ref b2)])) rfl (hb hby d2_1)
  refine Go.step st1 ?_
  show Go _ _ _ _ (T1.setTop (mkF m 4 #[.val (.ref b2)] [(.ref b0), (.ref b2)]))
  refine Go.step (fun _ k => Jvm.RoadKit.acmp (g := (mkF m 4 #[.val (.ref b2)] [(.ref b0), (.ref b2)])) X1 hx rfl rfl rfl (pc0 := 4) (pc' := 7) (same := false) rfl (hb hby d2_4) rfl (decide_eq_false fun q => (Fld.ne F2 F0 (by decide)) (Value.ref.inj q)) (by decide) (by decide) k) ?_
  show Go _ _ _ _ (T1.setTop (mkF m 7 #[.val (.ref b2)] []))
  refine Go.step (fun _ k => XS.aloadN X1.here hx rfl (hb hby d2_7) rfl rfl k) ?_
  show Go _ _ _ _ (T1.setTop (mkF m 8 #[.val (.ref b2)] [(.ref b2)]))
  obtain ⟨T2, X2, e2, st2⟩ := getS2 X1 hx hZ hown (host := "") (Or.inl (hw _ (List.mem_of_getElem? (i := 30) rfl))) Via.refl e1 S1 (g := (mkF m 8 #[.val (.ref b2)] [(.ref b2)])) rfl (hb hby d2_8)
  refine Go.step st2 ?_
  show Go _ _ _ _ (T2.setTop (mkF m 11 #[.val (.ref b2)] [(.ref b1), (.ref b2)]))
  refine Go.step (fun _ k => Jvm.RoadKit.acmp (g := (mkF m 11 #[.val (.ref b2)] [(.ref b1), (.ref b2)])) X2 hx rfl rfl rfl (pc0 := 11) (pc' := 14) (same := false) rfl (hb hby d2_11) rfl (decide_eq_false fun q => (Fld.ne F2 F1 (by decide)) (Value.ref.inj q)) (by decide) (by decide) k) ?_
  show Go _ _ _ _ (T2.setTop (mkF m 14 #[.val (.ref b2)] []))
  refine Go.step (fun _ k => XS.iconst X2.here hx rfl (hb hby d2_14) k) ?_
  show Go _ _ _ _ (T2.setTop (mkF m 15 #[.val (.ref b2)] [(.int (1 : Int32))]))
  refine Go.step (fun _ k => XS.goto X2.here hx rfl (pc0 := 15) (pc' := 19) rfl (hb hby d2_15) (by decide) (by decide) k) ?_
  show Go _ _ _ _ (T2.setTop (mkF m 19 #[.val (.ref b2)] [(.int (1 : Int32))]))
  exact leafN X2 hx (t := .boolean) hret (by simp) hlk (w := (1 : Int32)) rfl (hb hby d2_19) ⟨rfl, e2, rfl⟩ (by decide) (by decide)
set_option maxRecDepth 65536 in
set_option maxHeartbeats 40000000 in
theorem rh2_m (l : Launch) (Z : State) (a0 : Array Value) (hw : ∀ d ∈ tables_1, d.before a0 Z = true) (ws : List Jvm.Cond)  (h0 : Heap) (b0 b1 b2 b3 b4 b5 : Addr) (hO : Ops Z h0 b0 b1 b2 b3 b4 b5) : Con l Z (⟨"com/example/topiq/topiq/sql/SqlExpression$Operator", "holds", "(I)Z"⟩ : MethodName) prog_58_method_6_code 2 (some .boolean) ws ({ frames := 1, cells := 0, slots := 0, locals := 12 } : Room) #[(.ref b2), (.int (-1 : Int32))] h0 (fun v h L => v = some (.int (1 : Int32)) ∧ h = h0 ∧ L = []) := by
  refine Con.of pn3 fun p e s m below meth c s₁ hZ hx hby hml hown hret hlk hnm X0 e0 => ?_
  rw [ef3]
  obtain ⟨⟨S0, E0, F0⟩, ⟨S1, E1, F1⟩, ⟨S2, E2, F2⟩, ⟨S3, E3, F3⟩, ⟨S4, E4, F4⟩, ⟨S5, E5, F5⟩⟩ := hO
  show Go _ _ _ _ (s₁.setTop (mkF m 0 #[.val (.ref b2), .val (.int (-1 : Int32))] []))
  refine Go.step (fun _ k => XS.aloadN X0.here hx rfl (hb hby d3_0) rfl rfl k) ?_
  show Go _ _ _ _ (s₁.setTop (mkF m 1 #[.val (.ref b2), .val (.int (-1 : Int32))] [(.ref b2)]))
  refine goVU X0 hx hZ (owner := "java/lang/Enum") hown (hw _ (List.mem_of_getElem? (i := 19) rfl)) (hw _ (List.mem_of_getElem? (i := 20) rfl)) (hw _ (List.mem_of_getElem? (i := 21) rfl)) (by decide) (hw _ (List.mem_of_getElem? (i := 23) rfl)) (hw _ (List.mem_of_getElem? (i := 22) rfl)) (hw _ (List.mem_of_getElem? (i := 24) rfl)) (hw _ (List.mem_of_getElem? (i := 25) rfl)) (rm4 l Z a0 hw [] b2 h0 (2 : Int32) F2) e0 E2 (by rw [hml]; rfl) [] [] rfl pd4 rfl rfl 0 rfl (hb hby d3_1) (by decide) (by decide) (by decide) (by decide) fun T1 L1 v1 q1 X1 => ?_
  obtain ⟨rfl, e1, rfl⟩ := q1
  rw [List.append_nil] at X1
  show Go _ _ _ _ (T1.setTop (mkF m 4 #[.val (.ref b2), .val (.int (-1 : Int32))] [(.int (2 : Int32))]))
  refine Go.step (fun _ k => XS.tswIn X1.here hx rfl (pc0 := 4) (pc' := 78) rfl (hb hby d3_4) rfl (by decide) (o := 74) (by decide) (by decide) (by decide) k) ?_
  show Go _ _ _ _ (T1.setTop (mkF m 78 #[.val (.ref b2), .val (.int (-1 : Int32))] []))
  refine Go.step (fun _ k => XS.iloadN X1.here hx rfl (hb hby d3_78) rfl k) ?_
  show Go _ _ _ _ (T1.setTop (mkF m 79 #[.val (.ref b2), .val (.int (-1 : Int32))] [(.int (-1 : Int32))]))
  refine Go.step (fun _ k => XS.ifNo X1.here hx rfl (hb hby d3_79) rfl ((if0 _ _).trans (tlt (by decide : ((-1 : Int32) < (0 : Int32)))).2.1) k) ?_
  show Go _ _ _ _ (T1.setTop (mkF m 82 #[.val (.ref b2), .val (.int (-1 : Int32))] []))
  refine Go.step (fun _ k => XS.iconst X1.here hx rfl (hb hby d3_82) k) ?_
  show Go _ _ _ _ (T1.setTop (mkF m 83 #[.val (.ref b2), .val (.int (-1 : Int32))] [(.int (1 : Int32))]))
  refine Go.step (fun _ k => XS.goto X1.here hx rfl (pc0 := 83) (pc' := 123) rfl (hb hby d3_83) (by decide) (by decide) k) ?_
  show Go _ _ _ _ (T1.setTop (mkF m 123 #[.val (.ref b2), .val (.int (-1 : Int32))] [(.int (1 : Int32))]))
  exact leafN X1 hx (t := .boolean) hret (by simp) hlk (w := (1 : Int32)) rfl (hb hby d3_123) ⟨rfl, e1, rfl⟩ (by decide) (by decide)
set_option maxRecDepth 65536 in
set_option maxHeartbeats 40000000 in
theorem rh2_p (l : Launch) (Z : State) (a0 : Array Value) (hw : ∀ d ∈ tables_1, d.before a0 Z = true) (ws : List Jvm.Cond)  (h0 : Heap) (b0 b1 b2 b3 b4 b5 : Addr) (hO : Ops Z h0 b0 b1 b2 b3 b4 b5) : Con l Z (⟨"com/example/topiq/topiq/sql/SqlExpression$Operator", "holds", "(I)Z"⟩ : MethodName) prog_58_method_6_code 2 (some .boolean) ws ({ frames := 1, cells := 0, slots := 0, locals := 12 } : Room) #[(.ref b2), (.int (1 : Int32))] h0 (fun v h L => v = some (.int (0 : Int32)) ∧ h = h0 ∧ L = []) := by
  refine Con.of pn3 fun p e s m below meth c s₁ hZ hx hby hml hown hret hlk hnm X0 e0 => ?_
  rw [ef3]
  obtain ⟨⟨S0, E0, F0⟩, ⟨S1, E1, F1⟩, ⟨S2, E2, F2⟩, ⟨S3, E3, F3⟩, ⟨S4, E4, F4⟩, ⟨S5, E5, F5⟩⟩ := hO
  show Go _ _ _ _ (s₁.setTop (mkF m 0 #[.val (.ref b2), .val (.int (1 : Int32))] []))
  refine Go.step (fun _ k => XS.aloadN X0.here hx rfl (hb hby d3_0) rfl rfl k) ?_
  show Go _ _ _ _ (s₁.setTop (mkF m 1 #[.val (.ref b2), .val (.int (1 : Int32))] [(.ref b2)]))
  refine goVU X0 hx hZ (owner := "java/lang/Enum") hown (hw _ (List.mem_of_getElem? (i := 19) rfl)) (hw _ (List.mem_of_getElem? (i := 20) rfl)) (hw _ (List.mem_of_getElem? (i := 21) rfl)) (by decide) (hw _ (List.mem_of_getElem? (i := 23) rfl)) (hw _ (List.mem_of_getElem? (i := 22) rfl)) (hw _ (List.mem_of_getElem? (i := 24) rfl)) (hw _ (List.mem_of_getElem? (i := 25) rfl)) (rm4 l Z a0 hw [] b2 h0 (2 : Int32) F2) e0 E2 (by rw [hml]; rfl) [] [] rfl pd4 rfl rfl 0 rfl (hb hby d3_1) (by decide) (by decide) (by decide) (by decide) fun T1 L1 v1 q1 X1 => ?_
  obtain ⟨rfl, e1, rfl⟩ := q1
  rw [List.append_nil] at X1
  show Go _ _ _ _ (T1.setTop (mkF m 4 #[.val (.ref b2), .val (.int (1 : Int32))] [(.int (2 : Int32))]))
  refine Go.step (fun _ k => XS.tswIn X1.here hx rfl (pc0 := 4) (pc' := 78) rfl (hb hby d3_4) rfl (by decide) (o := 74) (by decide) (by decide) (by decide) k) ?_
  show Go _ _ _ _ (T1.setTop (mkF m 78 #[.val (.ref b2), .val (.int (1 : Int32))] []))
  refine Go.step (fun _ k => XS.iloadN X1.here hx rfl (hb hby d3_78) rfl k) ?_
  show Go _ _ _ _ (T1.setTop (mkF m 79 #[.val (.ref b2), .val (.int (1 : Int32))] [(.int (1 : Int32))]))
  refine Go.step (fun _ k => XS.ifYes X1.here hx rfl (pc0 := 79) (pc' := 86) rfl (hb hby d3_79) rfl ((if0 _ _).trans (flt (by decide : ¬ ((1 : Int32) < (0 : Int32)))).2.1) (by decide) (by decide) k) ?_
  show Go _ _ _ _ (T1.setTop (mkF m 86 #[.val (.ref b2), .val (.int (1 : Int32))] []))
  refine Go.step (fun _ k => XS.iconst X1.here hx rfl (hb hby d3_86) k) ?_
  show Go _ _ _ _ (T1.setTop (mkF m 87 #[.val (.ref b2), .val (.int (1 : Int32))] [(.int (0 : Int32))]))
  refine Go.step (fun _ k => XS.goto X1.here hx rfl (pc0 := 87) (pc' := 123) rfl (hb hby d3_87) (by decide) (by decide) k) ?_
  show Go _ _ _ _ (T1.setTop (mkF m 123 #[.val (.ref b2), .val (.int (1 : Int32))] [(.int (0 : Int32))]))
  exact leafN X1 hx (t := .boolean) hret (by simp) hlk (w := (0 : Int32)) rfl (hb hby d3_123) ⟨rfl, e1, rfl⟩ (by decide) (by decide)
set_option maxRecDepth 65536 in
set_option maxHeartbeats 40000000 in
theorem rp3 (l : Launch) (Z : State) (a0 : Array Value) (hw : ∀ d ∈ tables_1, d.before a0 Z = true) (ws : List Jvm.Cond)  (h0 : Heap) (b0 b1 b2 b3 b4 b5 : Addr) (hO : Ops Z h0 b0 b1 b2 b3 b4 b5) : Con l Z (⟨"com/example/topiq/topiq/sql/OperatorOrderingPinLaw", "pick", "(I)Lcom/example/topiq/topiq/sql/SqlExpression$Operator;"⟩ : MethodName) method_3_code 1 (some (.object "com/example/topiq/topiq/sql/SqlExpression$Operator")) ws ({ frames := 0, cells := 0, slots := 0, locals := 0 } : Room) #[(.int (3 : Int32))] h0 (fun v h L => v = some (.ref b3) ∧ h = h0 ∧ L = []) := by
  refine Con.of pn1 fun p e s m below meth c s₁ hZ hx hby hml hown hret hlk hnm X0 e0 => ?_
  rw [ef1]
  obtain ⟨⟨S0, E0, F0⟩, ⟨S1, E1, F1⟩, ⟨S2, E2, F2⟩, ⟨S3, E3, F3⟩, ⟨S4, E4, F4⟩, ⟨S5, E5, F5⟩⟩ := hO
  show Go _ _ _ _ (s₁.setTop (mkF m 0 #[.val (.int (3 : Int32))] []))
  refine Go.step (fun _ k => XS.iloadN X0.here hx rfl (hb hby d1_0) rfl k) ?_
  show Go _ _ _ _ (s₁.setTop (mkF m 1 #[.val (.int (3 : Int32))] [(.int (3 : Int32))]))
  refine Go.step (fun _ k => XS.ifYes X0.here hx rfl (pc0 := 1) (pc' := 8) rfl (hb hby d1_1) rfl ((if0 _ _).trans (feq (by decide : ¬ ((3 : Int32) = (0 : Int32)))).2) (by decide) (by decide) k) ?_
  show Go _ _ _ _ (s₁.setTop (mkF m 8 #[.val (.int (3 : Int32))] []))
  refine Go.step (fun _ k => XS.iloadN X0.here hx rfl (hb hby d1_8) rfl k) ?_
  show Go _ _ _ _ (s₁.setTop (mkF m 9 #[.val (.int (3 : Int32))] [(.int (3 : Int32))]))
  refine Go.step (fun _ k => XS.iconst X0.here hx rfl (hb hby d1_9) k) ?_
  show Go _ _ _ _ (s₁.setTop (mkF m 10 #[.val (.int (3 : Int32))] [(.int (1 : Int32)), (.int (3 : Int32))]))
  refine Go.step (fun _ k => XS.icmpYes X0.here hx rfl (pc0 := 10) (pc' := 17) rfl (hb hby d1_10) rfl (feq (by decide : ¬ ((3 : Int32) = (1 : Int32)))).2 (by decide) (by decide) k) ?_
  show Go _ _ _ _ (s₁.setTop (mkF m 17 #[.val (.int (3 : Int32))] []))
  refine Go.step (fun _ k => XS.iloadN X0.here hx rfl (hb hby d1_17) rfl k) ?_
  show Go _ _ _ _ (s₁.setTop (mkF m 18 #[.val (.int (3 : Int32))] [(.int (3 : Int32))]))
  refine Go.step (fun _ k => XS.iconst X0.here hx rfl (hb hby d1_18) k) ?_
  show Go _ _ _ _ (s₁.setTop (mkF m 19 #[.val (.int (3 : Int32))] [(.int (2 : Int32)), (.int (3 : Int32))]))
  refine Go.step (fun _ k => XS.icmpYes X0.here hx rfl (pc0 := 19) (pc' := 26) rfl (hb hby d1_19) rfl (feq (by decide : ¬ ((3 : Int32) = (2 : Int32)))).2 (by decide) (by decide) k) ?_
  show Go _ _ _ _ (s₁.setTop (mkF m 26 #[.val (.int (3 : Int32))] []))
  refine Go.step (fun _ k => XS.iloadN X0.here hx rfl (hb hby d1_26) rfl k) ?_
  show Go _ _ _ _ (s₁.setTop (mkF m 27 #[.val (.int (3 : Int32))] [(.int (3 : Int32))]))
  refine Go.step (fun _ k => XS.iconst X0.here hx rfl (hb hby d1_27) k) ?_
  show Go _ _ _ _ (s₁.setTop (mkF m 28 #[.val (.int (3 : Int32))] [(.int (3 : Int32)), (.int (3 : Int32))]))
  refine Go.step (fun _ k => XS.icmpNo X0.here hx rfl (hb hby d1_28) rfl (teq (by decide : ((3 : Int32) = (3 : Int32)))).2 k) ?_
  show Go _ _ _ _ (s₁.setTop (mkF m 31 #[.val (.int (3 : Int32))] []))
  obtain ⟨T1, X1, e1, st1⟩ := getS2 X0 hx hZ hown (host := "") (Or.inl (hw _ (List.mem_of_getElem? (i := 28) rfl))) Via.refl e0 S3 (g := (mkF m 31 #[.val (.int (3 : Int32))] [])) rfl (hb hby d1_31)
  refine Go.step st1 ?_
  show Go _ _ _ _ (T1.setTop (mkF m 34 #[.val (.int (3 : Int32))] [(.ref b3)]))
  exact leafA X1 hx hret rfl hlk rfl rfl (hb hby d1_34) ⟨rfl, e1, rfl⟩ (by decide) (by decide)
set_option maxRecDepth 65536 in
set_option maxHeartbeats 40000000 in
theorem ro3 (l : Launch) (Z : State) (a0 : Array Value) (hw : ∀ d ∈ tables_1, d.before a0 Z = true) (ws : List Jvm.Cond)  (h0 : Heap) (b0 b1 b2 b3 b4 b5 : Addr) (hO : Ops Z h0 b0 b1 b2 b3 b4 b5) : Con l Z (⟨"com/example/topiq/topiq/sql/SqlExpression$Operator", "ordering", "()Z"⟩ : MethodName) prog_58_method_5_code 1 (some .boolean) ws ({ frames := 0, cells := 0, slots := 0, locals := 0 } : Room) #[(.ref b3)] h0 (fun v h L => v = some (.int (1 : Int32)) ∧ h = h0 ∧ L = []) := by
  refine Con.of pn2 fun p e s m below meth c s₁ hZ hx hby hml hown hret hlk hnm X0 e0 => ?_
  rw [ef2]
  obtain ⟨⟨S0, E0, F0⟩, ⟨S1, E1, F1⟩, ⟨S2, E2, F2⟩, ⟨S3, E3, F3⟩, ⟨S4, E4, F4⟩, ⟨S5, E5, F5⟩⟩ := hO
  show Go _ _ _ _ (s₁.setTop (mkF m 0 #[.val (.ref b3)] []))
  refine Go.step (fun _ k => XS.aloadN X0.here hx rfl (hb hby d2_0) rfl rfl k) ?_
  show Go _ _ _ _ (s₁.setTop (mkF m 1 #[.val (.ref b3)] [(.ref b3)]))
  obtain ⟨T1, X1, e1, st1⟩ := getS2 X0 hx hZ hown (host := "") (Or.inl (hw _ (List.mem_of_getElem? (i := 13) rfl))) Via.refl e0 S0 (g := (mkF m 1 #[.val (.ref b3)] [(.ref b3)])) rfl (hb hby d2_1)
  refine Go.step st1 ?_
  show Go _ _ _ _ (T1.setTop (mkF m 4 #[.val (.ref b3)] [(.ref b0), (.ref b3)]))
  refine Go.step (fun _ k => Jvm.RoadKit.acmp (g := (mkF m 4 #[.val (.ref b3)] [(.ref b0), (.ref b3)])) X1 hx rfl rfl rfl (pc0 := 4) (pc' := 7) (same := false) rfl (hb hby d2_4) rfl (decide_eq_false fun q => (Fld.ne F3 F0 (by decide)) (Value.ref.inj q)) (by decide) (by decide) k) ?_
  show Go _ _ _ _ (T1.setTop (mkF m 7 #[.val (.ref b3)] []))
  refine Go.step (fun _ k => XS.aloadN X1.here hx rfl (hb hby d2_7) rfl rfl k) ?_
  show Go _ _ _ _ (T1.setTop (mkF m 8 #[.val (.ref b3)] [(.ref b3)]))
  obtain ⟨T2, X2, e2, st2⟩ := getS2 X1 hx hZ hown (host := "") (Or.inl (hw _ (List.mem_of_getElem? (i := 30) rfl))) Via.refl e1 S1 (g := (mkF m 8 #[.val (.ref b3)] [(.ref b3)])) rfl (hb hby d2_8)
  refine Go.step st2 ?_
  show Go _ _ _ _ (T2.setTop (mkF m 11 #[.val (.ref b3)] [(.ref b1), (.ref b3)]))
  refine Go.step (fun _ k => Jvm.RoadKit.acmp (g := (mkF m 11 #[.val (.ref b3)] [(.ref b1), (.ref b3)])) X2 hx rfl rfl rfl (pc0 := 11) (pc' := 14) (same := false) rfl (hb hby d2_11) rfl (decide_eq_false fun q => (Fld.ne F3 F1 (by decide)) (Value.ref.inj q)) (by decide) (by decide) k) ?_
  show Go _ _ _ _ (T2.setTop (mkF m 14 #[.val (.ref b3)] []))
  refine Go.step (fun _ k => XS.iconst X2.here hx rfl (hb hby d2_14) k) ?_
  show Go _ _ _ _ (T2.setTop (mkF m 15 #[.val (.ref b3)] [(.int (1 : Int32))]))
  refine Go.step (fun _ k => XS.goto X2.here hx rfl (pc0 := 15) (pc' := 19) rfl (hb hby d2_15) (by decide) (by decide) k) ?_
  show Go _ _ _ _ (T2.setTop (mkF m 19 #[.val (.ref b3)] [(.int (1 : Int32))]))
  exact leafN X2 hx (t := .boolean) hret (by simp) hlk (w := (1 : Int32)) rfl (hb hby d2_19) ⟨rfl, e2, rfl⟩ (by decide) (by decide)
set_option maxRecDepth 65536 in
set_option maxHeartbeats 40000000 in
theorem rh3_m (l : Launch) (Z : State) (a0 : Array Value) (hw : ∀ d ∈ tables_1, d.before a0 Z = true) (ws : List Jvm.Cond)  (h0 : Heap) (b0 b1 b2 b3 b4 b5 : Addr) (hO : Ops Z h0 b0 b1 b2 b3 b4 b5) : Con l Z (⟨"com/example/topiq/topiq/sql/SqlExpression$Operator", "holds", "(I)Z"⟩ : MethodName) prog_58_method_6_code 2 (some .boolean) ws ({ frames := 1, cells := 0, slots := 0, locals := 12 } : Room) #[(.ref b3), (.int (-1 : Int32))] h0 (fun v h L => v = some (.int (1 : Int32)) ∧ h = h0 ∧ L = []) := by
  refine Con.of pn3 fun p e s m below meth c s₁ hZ hx hby hml hown hret hlk hnm X0 e0 => ?_
  rw [ef3]
  obtain ⟨⟨S0, E0, F0⟩, ⟨S1, E1, F1⟩, ⟨S2, E2, F2⟩, ⟨S3, E3, F3⟩, ⟨S4, E4, F4⟩, ⟨S5, E5, F5⟩⟩ := hO
  show Go _ _ _ _ (s₁.setTop (mkF m 0 #[.val (.ref b3), .val (.int (-1 : Int32))] []))
  refine Go.step (fun _ k => XS.aloadN X0.here hx rfl (hb hby d3_0) rfl rfl k) ?_
  show Go _ _ _ _ (s₁.setTop (mkF m 1 #[.val (.ref b3), .val (.int (-1 : Int32))] [(.ref b3)]))
  refine goVU X0 hx hZ (owner := "java/lang/Enum") hown (hw _ (List.mem_of_getElem? (i := 19) rfl)) (hw _ (List.mem_of_getElem? (i := 20) rfl)) (hw _ (List.mem_of_getElem? (i := 21) rfl)) (by decide) (hw _ (List.mem_of_getElem? (i := 23) rfl)) (hw _ (List.mem_of_getElem? (i := 22) rfl)) (hw _ (List.mem_of_getElem? (i := 24) rfl)) (hw _ (List.mem_of_getElem? (i := 25) rfl)) (rm4 l Z a0 hw [] b3 h0 (3 : Int32) F3) e0 E3 (by rw [hml]; rfl) [] [] rfl pd4 rfl rfl 0 rfl (hb hby d3_1) (by decide) (by decide) (by decide) (by decide) fun T1 L1 v1 q1 X1 => ?_
  obtain ⟨rfl, e1, rfl⟩ := q1
  rw [List.append_nil] at X1
  show Go _ _ _ _ (T1.setTop (mkF m 4 #[.val (.ref b3), .val (.int (-1 : Int32))] [(.int (3 : Int32))]))
  refine Go.step (fun _ k => XS.tswIn X1.here hx rfl (pc0 := 4) (pc' := 90) rfl (hb hby d3_4) rfl (by decide) (o := 86) (by decide) (by decide) (by decide) k) ?_
  show Go _ _ _ _ (T1.setTop (mkF m 90 #[.val (.ref b3), .val (.int (-1 : Int32))] []))
  refine Go.step (fun _ k => XS.iloadN X1.here hx rfl (hb hby d3_90) rfl k) ?_
  show Go _ _ _ _ (T1.setTop (mkF m 91 #[.val (.ref b3), .val (.int (-1 : Int32))] [(.int (-1 : Int32))]))
  refine Go.step (fun _ k => XS.ifNo X1.here hx rfl (hb hby d3_91) rfl ((if0 _ _).trans (flt (by decide : ¬ ((0 : Int32) < (-1 : Int32)))).2.2.1) k) ?_
  show Go _ _ _ _ (T1.setTop (mkF m 94 #[.val (.ref b3), .val (.int (-1 : Int32))] []))
  refine Go.step (fun _ k => XS.iconst X1.here hx rfl (hb hby d3_94) k) ?_
  show Go _ _ _ _ (T1.setTop (mkF m 95 #[.val (.ref b3), .val (.int (-1 : Int32))] [(.int (1 : Int32))]))
  refine Go.step (fun _ k => XS.goto X1.here hx rfl (pc0 := 95) (pc' := 123) rfl (hb hby d3_95) (by decide) (by decide) k) ?_
  show Go _ _ _ _ (T1.setTop (mkF m 123 #[.val (.ref b3), .val (.int (-1 : Int32))] [(.int (1 : Int32))]))
  exact leafN X1 hx (t := .boolean) hret (by simp) hlk (w := (1 : Int32)) rfl (hb hby d3_123) ⟨rfl, e1, rfl⟩ (by decide) (by decide)
set_option maxRecDepth 65536 in
set_option maxHeartbeats 40000000 in
theorem rh3_p (l : Launch) (Z : State) (a0 : Array Value) (hw : ∀ d ∈ tables_1, d.before a0 Z = true) (ws : List Jvm.Cond)  (h0 : Heap) (b0 b1 b2 b3 b4 b5 : Addr) (hO : Ops Z h0 b0 b1 b2 b3 b4 b5) : Con l Z (⟨"com/example/topiq/topiq/sql/SqlExpression$Operator", "holds", "(I)Z"⟩ : MethodName) prog_58_method_6_code 2 (some .boolean) ws ({ frames := 1, cells := 0, slots := 0, locals := 12 } : Room) #[(.ref b3), (.int (1 : Int32))] h0 (fun v h L => v = some (.int (0 : Int32)) ∧ h = h0 ∧ L = []) := by
  refine Con.of pn3 fun p e s m below meth c s₁ hZ hx hby hml hown hret hlk hnm X0 e0 => ?_
  rw [ef3]
  obtain ⟨⟨S0, E0, F0⟩, ⟨S1, E1, F1⟩, ⟨S2, E2, F2⟩, ⟨S3, E3, F3⟩, ⟨S4, E4, F4⟩, ⟨S5, E5, F5⟩⟩ := hO
  show Go _ _ _ _ (s₁.setTop (mkF m 0 #[.val (.ref b3), .val (.int (1 : Int32))] []))
  refine Go.step (fun _ k => XS.aloadN X0.here hx rfl (hb hby d3_0) rfl rfl k) ?_
  show Go _ _ _ _ (s₁.setTop (mkF m 1 #[.val (.ref b3), .val (.int (1 : Int32))] [(.ref b3)]))
  refine goVU X0 hx hZ (owner := "java/lang/Enum") hown (hw _ (List.mem_of_getElem? (i := 19) rfl)) (hw _ (List.mem_of_getElem? (i := 20) rfl)) (hw _ (List.mem_of_getElem? (i := 21) rfl)) (by decide) (hw _ (List.mem_of_getElem? (i := 23) rfl)) (hw _ (List.mem_of_getElem? (i := 22) rfl)) (hw _ (List.mem_of_getElem? (i := 24) rfl)) (hw _ (List.mem_of_getElem? (i := 25) rfl)) (rm4 l Z a0 hw [] b3 h0 (3 : Int32) F3) e0 E3 (by rw [hml]; rfl) [] [] rfl pd4 rfl rfl 0 rfl (hb hby d3_1) (by decide) (by decide) (by decide) (by decide) fun T1 L1 v1 q1 X1 => ?_
  obtain ⟨rfl, e1, rfl⟩ := q1
  rw [List.append_nil] at X1
  show Go _ _ _ _ (T1.setTop (mkF m 4 #[.val (.ref b3), .val (.int (1 : Int32))] [(.int (3 : Int32))]))
  refine Go.step (fun _ k => XS.tswIn X1.here hx rfl (pc0 := 4) (pc' := 90) rfl (hb hby d3_4) rfl (by decide) (o := 86) (by decide) (by decide) (by decide) k) ?_
  show Go _ _ _ _ (T1.setTop (mkF m 90 #[.val (.ref b3), .val (.int (1 : Int32))] []))
  refine Go.step (fun _ k => XS.iloadN X1.here hx rfl (hb hby d3_90) rfl k) ?_
  show Go _ _ _ _ (T1.setTop (mkF m 91 #[.val (.ref b3), .val (.int (1 : Int32))] [(.int (1 : Int32))]))
  refine Go.step (fun _ k => XS.ifYes X1.here hx rfl (pc0 := 91) (pc' := 98) rfl (hb hby d3_91) rfl ((if0 _ _).trans (tlt (by decide : ((0 : Int32) < (1 : Int32)))).2.2.1) (by decide) (by decide) k) ?_
  show Go _ _ _ _ (T1.setTop (mkF m 98 #[.val (.ref b3), .val (.int (1 : Int32))] []))
  refine Go.step (fun _ k => XS.iconst X1.here hx rfl (hb hby d3_98) k) ?_
  show Go _ _ _ _ (T1.setTop (mkF m 99 #[.val (.ref b3), .val (.int (1 : Int32))] [(.int (0 : Int32))]))
  refine Go.step (fun _ k => XS.goto X1.here hx rfl (pc0 := 99) (pc' := 123) rfl (hb hby d3_99) (by decide) (by decide) k) ?_
  show Go _ _ _ _ (T1.setTop (mkF m 123 #[.val (.ref b3), .val (.int (1 : Int32))] [(.int (0 : Int32))]))
  exact leafN X1 hx (t := .boolean) hret (by simp) hlk (w := (0 : Int32)) rfl (hb hby d3_123) ⟨rfl, e1, rfl⟩ (by decide) (by decide)
set_option maxRecDepth 65536 in
set_option maxHeartbeats 40000000 in
theorem rp4 (l : Launch) (Z : State) (a0 : Array Value) (hw : ∀ d ∈ tables_1, d.before a0 Z = true) (ws : List Jvm.Cond)  (h0 : Heap) (b0 b1 b2 b3 b4 b5 : Addr) (hO : Ops Z h0 b0 b1 b2 b3 b4 b5) : Con l Z (⟨"com/example/topiq/topiq/sql/OperatorOrderingPinLaw", "pick", "(I)Lcom/example/topiq/topiq/sql/SqlExpression$Operator;"⟩ : MethodName) method_3_code 1 (some (.object "com/example/topiq/topiq/sql/SqlExpression$Operator")) ws ({ frames := 0, cells := 0, slots := 0, locals := 0 } : Room) #[(.int (4 : Int32))] h0 (fun v h L => v = some (.ref b4) ∧ h = h0 ∧ L = []) := by
  refine Con.of pn1 fun p e s m below meth c s₁ hZ hx hby hml hown hret hlk hnm X0 e0 => ?_
  rw [ef1]
  obtain ⟨⟨S0, E0, F0⟩, ⟨S1, E1, F1⟩, ⟨S2, E2, F2⟩, ⟨S3, E3, F3⟩, ⟨S4, E4, F4⟩, ⟨S5, E5, F5⟩⟩ := hO
  show Go _ _ _ _ (s₁.setTop (mkF m 0 #[.val (.int (4 : Int32))] []))
  refine Go.step (fun _ k => XS.iloadN X0.here hx rfl (hb hby d1_0) rfl k) ?_
  show Go _ _ _ _ (s₁.setTop (mkF m 1 #[.val (.int (4 : Int32))] [(.int (4 : Int32))]))
  refine Go.step (fun _ k => XS.ifYes X0.here hx rfl (pc0 := 1) (pc' := 8) rfl (hb hby d1_1) rfl ((if0 _ _).trans (feq (by decide : ¬ ((4 : Int32) = (0 : Int32)))).2) (by decide) (by decide) k) ?_
  show Go _ _ _ _ (s₁.setTop (mkF m 8 #[.val (.int (4 : Int32))] []))
  refine Go.step (fun _ k => XS.iloadN X0.here hx rfl (hb hby d1_8) rfl k) ?_
  show Go _ _ _ _ (s₁.setTop (mkF m 9 #[.val (.int (4 : Int32))] [(.int (4 : Int32))]))
  refine Go.step (fun _ k => XS.iconst X0.here hx rfl (hb hby d1_9) k) ?_
  show Go _ _ _ _ (s₁.setTop (mkF m 10 #[.val (.int (4 : Int32))] [(.int (1 : Int32)), (.int (4 : Int32))]))
  refine Go.step (fun _ k => XS.icmpYes X0.here hx rfl (pc0 := 10) (pc' := 17) rfl (hb hby d1_10) rfl (feq (by decide : ¬ ((4 : Int32) = (1 : Int32)))).2 (by decide) (by decide) k) ?_
  show Go _ _ _ _ (s₁.setTop (mkF m 17 #[.val (.int (4 : Int32))] []))
  refine Go.step (fun _ k => XS.iloadN X0.here hx rfl (hb hby d1_17) rfl k) ?_
  show Go _ _ _ _ (s₁.setTop (mkF m 18 #[.val (.int (4 : Int32))] [(.int (4 : Int32))]))
  refine Go.step (fun _ k => XS.iconst X0.here hx rfl (hb hby d1_18) k) ?_
  show Go _ _ _ _ (s₁.setTop (mkF m 19 #[.val (.int (4 : Int32))] [(.int (2 : Int32)), (.int (4 : Int32))]))
  refine Go.step (fun _ k => XS.icmpYes X0.here hx rfl (pc0 := 19) (pc' := 26) rfl (hb hby d1_19) rfl (feq (by decide : ¬ ((4 : Int32) = (2 : Int32)))).2 (by decide) (by decide) k) ?_
  show Go _ _ _ _ (s₁.setTop (mkF m 26 #[.val (.int (4 : Int32))] []))
  refine Go.step (fun _ k => XS.iloadN X0.here hx rfl (hb hby d1_26) rfl k) ?_
  show Go _ _ _ _ (s₁.setTop (mkF m 27 #[.val (.int (4 : Int32))] [(.int (4 : Int32))]))
  refine Go.step (fun _ k => XS.iconst X0.here hx rfl (hb hby d1_27) k) ?_
  show Go _ _ _ _ (s₁.setTop (mkF m 28 #[.val (.int (4 : Int32))] [(.int (3 : Int32)), (.int (4 : Int32))]))
  refine Go.step (fun _ k => XS.icmpYes X0.here hx rfl (pc0 := 28) (pc' := 35) rfl (hb hby d1_28) rfl (feq (by decide : ¬ ((4 : Int32) = (3 : Int32)))).2 (by decide) (by decide) k) ?_
  show Go _ _ _ _ (s₁.setTop (mkF m 35 #[.val (.int (4 : Int32))] []))
  refine Go.step (fun _ k => XS.iloadN X0.here hx rfl (hb hby d1_35) rfl k) ?_
  show Go _ _ _ _ (s₁.setTop (mkF m 36 #[.val (.int (4 : Int32))] [(.int (4 : Int32))]))
  refine Go.step (fun _ k => XS.iconst X0.here hx rfl (hb hby d1_36) k) ?_
  show Go _ _ _ _ (s₁.setTop (mkF m 37 #[.val (.int (4 : Int32))] [(.int (4 : Int32)), (.int (4 : Int32))]))
  refine Go.step (fun _ k => XS.icmpNo X0.here hx rfl (hb hby d1_37) rfl (teq (by decide : ((4 : Int32) = (4 : Int32)))).2 k) ?_
  show Go _ _ _ _ (s₁.setTop (mkF m 40 #[.val (.int (4 : Int32))] []))
  obtain ⟨T1, X1, e1, st1⟩ := getS2 X0 hx hZ hown (host := "") (Or.inl (hw _ (List.mem_of_getElem? (i := 37) rfl))) Via.refl e0 S4 (g := (mkF m 40 #[.val (.int (4 : Int32))] [])) rfl (hb hby d1_40)
  refine Go.step st1 ?_
  show Go _ _ _ _ (T1.setTop (mkF m 43 #[.val (.int (4 : Int32))] [(.ref b4)]))
  exact leafA X1 hx hret rfl hlk rfl rfl (hb hby d1_43) ⟨rfl, e1, rfl⟩ (by decide) (by decide)
set_option maxRecDepth 65536 in
set_option maxHeartbeats 40000000 in
theorem ro4 (l : Launch) (Z : State) (a0 : Array Value) (hw : ∀ d ∈ tables_1, d.before a0 Z = true) (ws : List Jvm.Cond)  (h0 : Heap) (b0 b1 b2 b3 b4 b5 : Addr) (hO : Ops Z h0 b0 b1 b2 b3 b4 b5) : Con l Z (⟨"com/example/topiq/topiq/sql/SqlExpression$Operator", "ordering", "()Z"⟩ : MethodName) prog_58_method_5_code 1 (some .boolean) ws ({ frames := 0, cells := 0, slots := 0, locals := 0 } : Room) #[(.ref b4)] h0 (fun v h L => v = some (.int (1 : Int32)) ∧ h = h0 ∧ L = []) := by
  refine Con.of pn2 fun p e s m below meth c s₁ hZ hx hby hml hown hret hlk hnm X0 e0 => ?_
  rw [ef2]
  obtain ⟨⟨S0, E0, F0⟩, ⟨S1, E1, F1⟩, ⟨S2, E2, F2⟩, ⟨S3, E3, F3⟩, ⟨S4, E4, F4⟩, ⟨S5, E5, F5⟩⟩ := hO
  show Go _ _ _ _ (s₁.setTop (mkF m 0 #[.val (.ref b4)] []))
  refine Go.step (fun _ k => XS.aloadN X0.here hx rfl (hb hby d2_0) rfl rfl k) ?_
  show Go _ _ _ _ (s₁.setTop (mkF m 1 #[.val (.ref b4)] [(.ref b4)]))
  obtain ⟨T1, X1, e1, st1⟩ := getS2 X0 hx hZ hown (host := "") (Or.inl (hw _ (List.mem_of_getElem? (i := 13) rfl))) Via.refl e0 S0 (g := (mkF m 1 #[.val (.ref b4)] [(.ref b4)])) rfl (hb hby d2_1)
  refine Go.step st1 ?_
  show Go _ _ _ _ (T1.setTop (mkF m 4 #[.val (.ref b4)] [(.ref b0), (.ref b4)]))
  refine Go.step (fun _ k => Jvm.RoadKit.acmp (g := (mkF m 4 #[.val (.ref b4)] [(.ref b0), (.ref b4)])) X1 hx rfl rfl rfl (pc0 := 4) (pc' := 7) (same := false) rfl (hb hby d2_4) rfl (decide_eq_false fun q => (Fld.ne F4 F0 (by decide)) (Value.ref.inj q)) (by decide) (by decide) k) ?_
  show Go _ _ _ _ (T1.setTop (mkF m 7 #[.val (.ref b4)] []))
  refine Go.step (fun _ k => XS.aloadN X1.here hx rfl (hb hby d2_7) rfl rfl k) ?_
  show Go _ _ _ _ (T1.setTop (mkF m 8 #[.val (.ref b4)] [(.ref b4)]))
  obtain ⟨T2, X2, e2, st2⟩ := getS2 X1 hx hZ hown (host := "") (Or.inl (hw _ (List.mem_of_getElem? (i := 30) rfl))) Via.refl e1 S1 (g := (mkF m 8 #[.val (.ref b4)] [(.ref b4)])) rfl (hb hby d2_8)
  refine Go.step st2 ?_
  show Go _ _ _ _ (T2.setTop (mkF m 11 #[.val (.ref b4)] [(.ref b1), (.ref b4)]))
  refine Go.step (fun _ k => Jvm.RoadKit.acmp (g := (mkF m 11 #[.val (.ref b4)] [(.ref b1), (.ref b4)])) X2 hx rfl rfl rfl (pc0 := 11) (pc' := 14) (same := false) rfl (hb hby d2_11) rfl (decide_eq_false fun q => (Fld.ne F4 F1 (by decide)) (Value.ref.inj q)) (by decide) (by decide) k) ?_
  show Go _ _ _ _ (T2.setTop (mkF m 14 #[.val (.ref b4)] []))
  refine Go.step (fun _ k => XS.iconst X2.here hx rfl (hb hby d2_14) k) ?_
  show Go _ _ _ _ (T2.setTop (mkF m 15 #[.val (.ref b4)] [(.int (1 : Int32))]))
  refine Go.step (fun _ k => XS.goto X2.here hx rfl (pc0 := 15) (pc' := 19) rfl (hb hby d2_15) (by decide) (by decide) k) ?_
  show Go _ _ _ _ (T2.setTop (mkF m 19 #[.val (.ref b4)] [(.int (1 : Int32))]))
  exact leafN X2 hx (t := .boolean) hret (by simp) hlk (w := (1 : Int32)) rfl (hb hby d2_19) ⟨rfl, e2, rfl⟩ (by decide) (by decide)
set_option maxRecDepth 65536 in
set_option maxHeartbeats 40000000 in
theorem rh4_m (l : Launch) (Z : State) (a0 : Array Value) (hw : ∀ d ∈ tables_1, d.before a0 Z = true) (ws : List Jvm.Cond)  (h0 : Heap) (b0 b1 b2 b3 b4 b5 : Addr) (hO : Ops Z h0 b0 b1 b2 b3 b4 b5) : Con l Z (⟨"com/example/topiq/topiq/sql/SqlExpression$Operator", "holds", "(I)Z"⟩ : MethodName) prog_58_method_6_code 2 (some .boolean) ws ({ frames := 1, cells := 0, slots := 0, locals := 12 } : Room) #[(.ref b4), (.int (-1 : Int32))] h0 (fun v h L => v = some (.int (0 : Int32)) ∧ h = h0 ∧ L = []) := by
  refine Con.of pn3 fun p e s m below meth c s₁ hZ hx hby hml hown hret hlk hnm X0 e0 => ?_
  rw [ef3]
  obtain ⟨⟨S0, E0, F0⟩, ⟨S1, E1, F1⟩, ⟨S2, E2, F2⟩, ⟨S3, E3, F3⟩, ⟨S4, E4, F4⟩, ⟨S5, E5, F5⟩⟩ := hO
  show Go _ _ _ _ (s₁.setTop (mkF m 0 #[.val (.ref b4), .val (.int (-1 : Int32))] []))
  refine Go.step (fun _ k => XS.aloadN X0.here hx rfl (hb hby d3_0) rfl rfl k) ?_
  show Go _ _ _ _ (s₁.setTop (mkF m 1 #[.val (.ref b4), .val (.int (-1 : Int32))] [(.ref b4)]))
  refine goVU X0 hx hZ (owner := "java/lang/Enum") hown (hw _ (List.mem_of_getElem? (i := 19) rfl)) (hw _ (List.mem_of_getElem? (i := 20) rfl)) (hw _ (List.mem_of_getElem? (i := 21) rfl)) (by decide) (hw _ (List.mem_of_getElem? (i := 23) rfl)) (hw _ (List.mem_of_getElem? (i := 22) rfl)) (hw _ (List.mem_of_getElem? (i := 24) rfl)) (hw _ (List.mem_of_getElem? (i := 25) rfl)) (rm4 l Z a0 hw [] b4 h0 (4 : Int32) F4) e0 E4 (by rw [hml]; rfl) [] [] rfl pd4 rfl rfl 0 rfl (hb hby d3_1) (by decide) (by decide) (by decide) (by decide) fun T1 L1 v1 q1 X1 => ?_
  obtain ⟨rfl, e1, rfl⟩ := q1
  rw [List.append_nil] at X1
  show Go _ _ _ _ (T1.setTop (mkF m 4 #[.val (.ref b4), .val (.int (-1 : Int32))] [(.int (4 : Int32))]))
  refine Go.step (fun _ k => XS.tswIn X1.here hx rfl (pc0 := 4) (pc' := 102) rfl (hb hby d3_4) rfl (by decide) (o := 98) (by decide) (by decide) (by decide) k) ?_
  show Go _ _ _ _ (T1.setTop (mkF m 102 #[.val (.ref b4), .val (.int (-1 : Int32))] []))
  refine Go.step (fun _ k => XS.iloadN X1.here hx rfl (hb hby d3_102) rfl k) ?_
  show Go _ _ _ _ (T1.setTop (mkF m 103 #[.val (.ref b4), .val (.int (-1 : Int32))] [(.int (-1 : Int32))]))
  refine Go.step (fun _ k => XS.ifYes X1.here hx rfl (pc0 := 103) (pc' := 110) rfl (hb hby d3_103) rfl ((if0 _ _).trans (flt (by decide : ¬ ((0 : Int32) < (-1 : Int32)))).2.2.2) (by decide) (by decide) k) ?_
  show Go _ _ _ _ (T1.setTop (mkF m 110 #[.val (.ref b4), .val (.int (-1 : Int32))] []))
  refine Go.step (fun _ k => XS.iconst X1.here hx rfl (hb hby d3_110) k) ?_
  show Go _ _ _ _ (T1.setTop (mkF m 111 #[.val (.ref b4), .val (.int (-1 : Int32))] [(.int (0 : Int32))]))
  refine Go.step (fun _ k => XS.goto X1.here hx rfl (pc0 := 111) (pc' := 123) rfl (hb hby d3_111) (by decide) (by decide) k) ?_
  show Go _ _ _ _ (T1.setTop (mkF m 123 #[.val (.ref b4), .val (.int (-1 : Int32))] [(.int (0 : Int32))]))
  exact leafN X1 hx (t := .boolean) hret (by simp) hlk (w := (0 : Int32)) rfl (hb hby d3_123) ⟨rfl, e1, rfl⟩ (by decide) (by decide)
set_option maxRecDepth 65536 in
set_option maxHeartbeats 40000000 in
theorem rh4_p (l : Launch) (Z : State) (a0 : Array Value) (hw : ∀ d ∈ tables_1, d.before a0 Z = true) (ws : List Jvm.Cond)  (h0 : Heap) (b0 b1 b2 b3 b4 b5 : Addr) (hO : Ops Z h0 b0 b1 b2 b3 b4 b5) : Con l Z (⟨"com/example/topiq/topiq/sql/SqlExpression$Operator", "holds", "(I)Z"⟩ : MethodName) prog_58_method_6_code 2 (some .boolean) ws ({ frames := 1, cells := 0, slots := 0, locals := 12 } : Room) #[(.ref b4), (.int (1 : Int32))] h0 (fun v h L => v = some (.int (1 : Int32)) ∧ h = h0 ∧ L = []) := by
  refine Con.of pn3 fun p e s m below meth c s₁ hZ hx hby hml hown hret hlk hnm X0 e0 => ?_
  rw [ef3]
  obtain ⟨⟨S0, E0, F0⟩, ⟨S1, E1, F1⟩, ⟨S2, E2, F2⟩, ⟨S3, E3, F3⟩, ⟨S4, E4, F4⟩, ⟨S5, E5, F5⟩⟩ := hO
  show Go _ _ _ _ (s₁.setTop (mkF m 0 #[.val (.ref b4), .val (.int (1 : Int32))] []))
  refine Go.step (fun _ k => XS.aloadN X0.here hx rfl (hb hby d3_0) rfl rfl k) ?_
  show Go _ _ _ _ (s₁.setTop (mkF m 1 #[.val (.ref b4), .val (.int (1 : Int32))] [(.ref b4)]))
  refine goVU X0 hx hZ (owner := "java/lang/Enum") hown (hw _ (List.mem_of_getElem? (i := 19) rfl)) (hw _ (List.mem_of_getElem? (i := 20) rfl)) (hw _ (List.mem_of_getElem? (i := 21) rfl)) (by decide) (hw _ (List.mem_of_getElem? (i := 23) rfl)) (hw _ (List.mem_of_getElem? (i := 22) rfl)) (hw _ (List.mem_of_getElem? (i := 24) rfl)) (hw _ (List.mem_of_getElem? (i := 25) rfl)) (rm4 l Z a0 hw [] b4 h0 (4 : Int32) F4) e0 E4 (by rw [hml]; rfl) [] [] rfl pd4 rfl rfl 0 rfl (hb hby d3_1) (by decide) (by decide) (by decide) (by decide) fun T1 L1 v1 q1 X1 => ?_
  obtain ⟨rfl, e1, rfl⟩ := q1
  rw [List.append_nil] at X1
  show Go _ _ _ _ (T1.setTop (mkF m 4 #[.val (.ref b4), .val (.int (1 : Int32))] [(.int (4 : Int32))]))
  refine Go.step (fun _ k => XS.tswIn X1.here hx rfl (pc0 := 4) (pc' := 102) rfl (hb hby d3_4) rfl (by decide) (o := 98) (by decide) (by decide) (by decide) k) ?_
  show Go _ _ _ _ (T1.setTop (mkF m 102 #[.val (.ref b4), .val (.int (1 : Int32))] []))
  refine Go.step (fun _ k => XS.iloadN X1.here hx rfl (hb hby d3_102) rfl k) ?_
  show Go _ _ _ _ (T1.setTop (mkF m 103 #[.val (.ref b4), .val (.int (1 : Int32))] [(.int (1 : Int32))]))
  refine Go.step (fun _ k => XS.ifNo X1.here hx rfl (hb hby d3_103) rfl ((if0 _ _).trans (tlt (by decide : ((0 : Int32) < (1 : Int32)))).2.2.2) k) ?_
  show Go _ _ _ _ (T1.setTop (mkF m 106 #[.val (.ref b4), .val (.int (1 : Int32))] []))
  refine Go.step (fun _ k => XS.iconst X1.here hx rfl (hb hby d3_106) k) ?_
  show Go _ _ _ _ (T1.setTop (mkF m 107 #[.val (.ref b4), .val (.int (1 : Int32))] [(.int (1 : Int32))]))
  refine Go.step (fun _ k => XS.goto X1.here hx rfl (pc0 := 107) (pc' := 123) rfl (hb hby d3_107) (by decide) (by decide) k) ?_
  show Go _ _ _ _ (T1.setTop (mkF m 123 #[.val (.ref b4), .val (.int (1 : Int32))] [(.int (1 : Int32))]))
  exact leafN X1 hx (t := .boolean) hret (by simp) hlk (w := (1 : Int32)) rfl (hb hby d3_123) ⟨rfl, e1, rfl⟩ (by decide) (by decide)
set_option maxRecDepth 65536 in
set_option maxHeartbeats 40000000 in
theorem rp5 (l : Launch) (Z : State) (a0 : Array Value) (hw : ∀ d ∈ tables_1, d.before a0 Z = true) (ws : List Jvm.Cond)  (h0 : Heap) (b0 b1 b2 b3 b4 b5 : Addr) (hO : Ops Z h0 b0 b1 b2 b3 b4 b5) : Con l Z (⟨"com/example/topiq/topiq/sql/OperatorOrderingPinLaw", "pick", "(I)Lcom/example/topiq/topiq/sql/SqlExpression$Operator;"⟩ : MethodName) method_3_code 1 (some (.object "com/example/topiq/topiq/sql/SqlExpression$Operator")) ws ({ frames := 0, cells := 0, slots := 0, locals := 0 } : Room) #[(.int (5 : Int32))] h0 (fun v h L => v = some (.ref b5) ∧ h = h0 ∧ L = []) := by
  refine Con.of pn1 fun p e s m below meth c s₁ hZ hx hby hml hown hret hlk hnm X0 e0 => ?_
  rw [ef1]
  obtain ⟨⟨S0, E0, F0⟩, ⟨S1, E1, F1⟩, ⟨S2, E2, F2⟩, ⟨S3, E3, F3⟩, ⟨S4, E4, F4⟩, ⟨S5, E5, F5⟩⟩ := hO
  show Go _ _ _ _ (s₁.setTop (mkF m 0 #[.val (.int (5 : Int32))] []))
  refine Go.step (fun _ k => XS.iloadN X0.here hx rfl (hb hby d1_0) rfl k) ?_
  show Go _ _ _ _ (s₁.setTop (mkF m 1 #[.val (.int (5 : Int32))] [(.int (5 : Int32))]))
  refine Go.step (fun _ k => XS.ifYes X0.here hx rfl (pc0 := 1) (pc' := 8) rfl (hb hby d1_1) rfl ((if0 _ _).trans (feq (by decide : ¬ ((5 : Int32) = (0 : Int32)))).2) (by decide) (by decide) k) ?_
  show Go _ _ _ _ (s₁.setTop (mkF m 8 #[.val (.int (5 : Int32))] []))
  refine Go.step (fun _ k => XS.iloadN X0.here hx rfl (hb hby d1_8) rfl k) ?_
  show Go _ _ _ _ (s₁.setTop (mkF m 9 #[.val (.int (5 : Int32))] [(.int (5 : Int32))]))
  refine Go.step (fun _ k => XS.iconst X0.here hx rfl (hb hby d1_9) k) ?_
  show Go _ _ _ _ (s₁.setTop (mkF m 10 #[.val (.int (5 : Int32))] [(.int (1 : Int32)), (.int (5 : Int32))]))
  refine Go.step (fun _ k => XS.icmpYes X0.here hx rfl (pc0 := 10) (pc' := 17) rfl (hb hby d1_10) rfl (feq (by decide : ¬ ((5 : Int32) = (1 : Int32)))).2 (by decide) (by decide) k) ?_
  show Go _ _ _ _ (s₁.setTop (mkF m 17 #[.val (.int (5 : Int32))] []))
  refine Go.step (fun _ k => XS.iloadN X0.here hx rfl (hb hby d1_17) rfl k) ?_
  show Go _ _ _ _ (s₁.setTop (mkF m 18 #[.val (.int (5 : Int32))] [(.int (5 : Int32))]))
  refine Go.step (fun _ k => XS.iconst X0.here hx rfl (hb hby d1_18) k) ?_
  show Go _ _ _ _ (s₁.setTop (mkF m 19 #[.val (.int (5 : Int32))] [(.int (2 : Int32)), (.int (5 : Int32))]))
  refine Go.step (fun _ k => XS.icmpYes X0.here hx rfl (pc0 := 19) (pc' := 26) rfl (hb hby d1_19) rfl (feq (by decide : ¬ ((5 : Int32) = (2 : Int32)))).2 (by decide) (by decide) k) ?_
  show Go _ _ _ _ (s₁.setTop (mkF m 26 #[.val (.int (5 : Int32))] []))
  refine Go.step (fun _ k => XS.iloadN X0.here hx rfl (hb hby d1_26) rfl k) ?_
  show Go _ _ _ _ (s₁.setTop (mkF m 27 #[.val (.int (5 : Int32))] [(.int (5 : Int32))]))
  refine Go.step (fun _ k => XS.iconst X0.here hx rfl (hb hby d1_27) k) ?_
  show Go _ _ _ _ (s₁.setTop (mkF m 28 #[.val (.int (5 : Int32))] [(.int (3 : Int32)), (.int (5 : Int32))]))
  refine Go.step (fun _ k => XS.icmpYes X0.here hx rfl (pc0 := 28) (pc' := 35) rfl (hb hby d1_28) rfl (feq (by decide : ¬ ((5 : Int32) = (3 : Int32)))).2 (by decide) (by decide) k) ?_
  show Go _ _ _ _ (s₁.setTop (mkF m 35 #[.val (.int (5 : Int32))] []))
  refine Go.step (fun _ k => XS.iloadN X0.here hx rfl (hb hby d1_35) rfl k) ?_
  show Go _ _ _ _ (s₁.setTop (mkF m 36 #[.val (.int (5 : Int32))] [(.int (5 : Int32))]))
  refine Go.step (fun _ k => XS.iconst X0.here hx rfl (hb hby d1_36) k) ?_
  show Go _ _ _ _ (s₁.setTop (mkF m 37 #[.val (.int (5 : Int32))] [(.int (4 : Int32)), (.int (5 : Int32))]))
  refine Go.step (fun _ k => XS.icmpYes X0.here hx rfl (pc0 := 37) (pc' := 44) rfl (hb hby d1_37) rfl (feq (by decide : ¬ ((5 : Int32) = (4 : Int32)))).2 (by decide) (by decide) k) ?_
  show Go _ _ _ _ (s₁.setTop (mkF m 44 #[.val (.int (5 : Int32))] []))
  obtain ⟨T1, X1, e1, st1⟩ := getS2 X0 hx hZ hown (host := "") (Or.inl (hw _ (List.mem_of_getElem? (i := 35) rfl))) Via.refl e0 S5 (g := (mkF m 44 #[.val (.int (5 : Int32))] [])) rfl (hb hby d1_44)
  refine Go.step st1 ?_
  show Go _ _ _ _ (T1.setTop (mkF m 47 #[.val (.int (5 : Int32))] [(.ref b5)]))
  exact leafA X1 hx hret rfl hlk rfl rfl (hb hby d1_47) ⟨rfl, e1, rfl⟩ (by decide) (by decide)
set_option maxRecDepth 65536 in
set_option maxHeartbeats 40000000 in
theorem ro5 (l : Launch) (Z : State) (a0 : Array Value) (hw : ∀ d ∈ tables_1, d.before a0 Z = true) (ws : List Jvm.Cond)  (h0 : Heap) (b0 b1 b2 b3 b4 b5 : Addr) (hO : Ops Z h0 b0 b1 b2 b3 b4 b5) : Con l Z (⟨"com/example/topiq/topiq/sql/SqlExpression$Operator", "ordering", "()Z"⟩ : MethodName) prog_58_method_5_code 1 (some .boolean) ws ({ frames := 0, cells := 0, slots := 0, locals := 0 } : Room) #[(.ref b5)] h0 (fun v h L => v = some (.int (1 : Int32)) ∧ h = h0 ∧ L = []) := by
  refine Con.of pn2 fun p e s m below meth c s₁ hZ hx hby hml hown hret hlk hnm X0 e0 => ?_
  rw [ef2]
  obtain ⟨⟨S0, E0, F0⟩, ⟨S1, E1, F1⟩, ⟨S2, E2, F2⟩, ⟨S3, E3, F3⟩, ⟨S4, E4, F4⟩, ⟨S5, E5, F5⟩⟩ := hO
  show Go _ _ _ _ (s₁.setTop (mkF m 0 #[.val (.ref b5)] []))
  refine Go.step (fun _ k => XS.aloadN X0.here hx rfl (hb hby d2_0) rfl rfl k) ?_
  show Go _ _ _ _ (s₁.setTop (mkF m 1 #[.val (.ref b5)] [(.ref b5)]))
  obtain ⟨T1, X1, e1, st1⟩ := getS2 X0 hx hZ hown (host := "") (Or.inl (hw _ (List.mem_of_getElem? (i := 13) rfl))) Via.refl e0 S0 (g := (mkF m 1 #[.val (.ref b5)] [(.ref b5)])) rfl (hb hby d2_1)
  refine Go.step st1 ?_
  show Go _ _ _ _ (T1.setTop (mkF m 4 #[.val (.ref b5)] [(.ref b0), (.ref b5)]))
  refine Go.step (fun _ k => Jvm.RoadKit.acmp (g := (mkF m 4 #[.val (.ref b5)] [(.ref b0), (.ref b5)])) X1 hx rfl rfl rfl (pc0 := 4) (pc' := 7) (same := false) rfl (hb hby d2_4) rfl (decide_eq_false fun q => (Fld.ne F5 F0 (by decide)) (Value.ref.inj q)) (by decide) (by decide) k) ?_
  show Go _ _ _ _ (T1.setTop (mkF m 7 #[.val (.ref b5)] []))
  refine Go.step (fun _ k => XS.aloadN X1.here hx rfl (hb hby d2_7) rfl rfl k) ?_
  show Go _ _ _ _ (T1.setTop (mkF m 8 #[.val (.ref b5)] [(.ref b5)]))
  obtain ⟨T2, X2, e2, st2⟩ := getS2 X1 hx hZ hown (host := "") (Or.inl (hw _ (List.mem_of_getElem? (i := 30) rfl))) Via.refl e1 S1 (g := (mkF m 8 #[.val (.ref b5)] [(.ref b5)])) rfl (hb hby d2_8)
  refine Go.step st2 ?_
  show Go _ _ _ _ (T2.setTop (mkF m 11 #[.val (.ref b5)] [(.ref b1), (.ref b5)]))
  refine Go.step (fun _ k => Jvm.RoadKit.acmp (g := (mkF m 11 #[.val (.ref b5)] [(.ref b1), (.ref b5)])) X2 hx rfl rfl rfl (pc0 := 11) (pc' := 14) (same := false) rfl (hb hby d2_11) rfl (decide_eq_false fun q => (Fld.ne F5 F1 (by decide)) (Value.ref.inj q)) (by decide) (by decide) k) ?_
  show Go _ _ _ _ (T2.setTop (mkF m 14 #[.val (.ref b5)] []))
  refine Go.step (fun _ k => XS.iconst X2.here hx rfl (hb hby d2_14) k) ?_
  show Go _ _ _ _ (T2.setTop (mkF m 15 #[.val (.ref b5)] [(.int (1 : Int32))]))
  refine Go.step (fun _ k => XS.goto X2.here hx rfl (pc0 := 15) (pc' := 19) rfl (hb hby d2_15) (by decide) (by decide) k) ?_
  show Go _ _ _ _ (T2.setTop (mkF m 19 #[.val (.ref b5)] [(.int (1 : Int32))]))
  exact leafN X2 hx (t := .boolean) hret (by simp) hlk (w := (1 : Int32)) rfl (hb hby d2_19) ⟨rfl, e2, rfl⟩ (by decide) (by decide)
set_option maxRecDepth 65536 in
set_option maxHeartbeats 40000000 in
theorem rh5_m (l : Launch) (Z : State) (a0 : Array Value) (hw : ∀ d ∈ tables_1, d.before a0 Z = true) (ws : List Jvm.Cond)  (h0 : Heap) (b0 b1 b2 b3 b4 b5 : Addr) (hO : Ops Z h0 b0 b1 b2 b3 b4 b5) : Con l Z (⟨"com/example/topiq/topiq/sql/SqlExpression$Operator", "holds", "(I)Z"⟩ : MethodName) prog_58_method_6_code 2 (some .boolean) ws ({ frames := 1, cells := 0, slots := 0, locals := 12 } : Room) #[(.ref b5), (.int (-1 : Int32))] h0 (fun v h L => v = some (.int (0 : Int32)) ∧ h = h0 ∧ L = []) := by
  refine Con.of pn3 fun p e s m below meth c s₁ hZ hx hby hml hown hret hlk hnm X0 e0 => ?_
  rw [ef3]
  obtain ⟨⟨S0, E0, F0⟩, ⟨S1, E1, F1⟩, ⟨S2, E2, F2⟩, ⟨S3, E3, F3⟩, ⟨S4, E4, F4⟩, ⟨S5, E5, F5⟩⟩ := hO
  show Go _ _ _ _ (s₁.setTop (mkF m 0 #[.val (.ref b5), .val (.int (-1 : Int32))] []))
  refine Go.step (fun _ k => XS.aloadN X0.here hx rfl (hb hby d3_0) rfl rfl k) ?_
  show Go _ _ _ _ (s₁.setTop (mkF m 1 #[.val (.ref b5), .val (.int (-1 : Int32))] [(.ref b5)]))
  refine goVU X0 hx hZ (owner := "java/lang/Enum") hown (hw _ (List.mem_of_getElem? (i := 19) rfl)) (hw _ (List.mem_of_getElem? (i := 20) rfl)) (hw _ (List.mem_of_getElem? (i := 21) rfl)) (by decide) (hw _ (List.mem_of_getElem? (i := 23) rfl)) (hw _ (List.mem_of_getElem? (i := 22) rfl)) (hw _ (List.mem_of_getElem? (i := 24) rfl)) (hw _ (List.mem_of_getElem? (i := 25) rfl)) (rm4 l Z a0 hw [] b5 h0 (5 : Int32) F5) e0 E5 (by rw [hml]; rfl) [] [] rfl pd4 rfl rfl 0 rfl (hb hby d3_1) (by decide) (by decide) (by decide) (by decide) fun T1 L1 v1 q1 X1 => ?_
  obtain ⟨rfl, e1, rfl⟩ := q1
  rw [List.append_nil] at X1
  show Go _ _ _ _ (T1.setTop (mkF m 4 #[.val (.ref b5), .val (.int (-1 : Int32))] [(.int (5 : Int32))]))
  refine Go.step (fun _ k => XS.tswIn X1.here hx rfl (pc0 := 4) (pc' := 114) rfl (hb hby d3_4) rfl (by decide) (o := 110) (by decide) (by decide) (by decide) k) ?_
  show Go _ _ _ _ (T1.setTop (mkF m 114 #[.val (.ref b5), .val (.int (-1 : Int32))] []))
  refine Go.step (fun _ k => XS.iloadN X1.here hx rfl (hb hby d3_114) rfl k) ?_
  show Go _ _ _ _ (T1.setTop (mkF m 115 #[.val (.ref b5), .val (.int (-1 : Int32))] [(.int (-1 : Int32))]))
  refine Go.step (fun _ k => XS.ifYes X1.here hx rfl (pc0 := 115) (pc' := 122) rfl (hb hby d3_115) rfl ((if0 _ _).trans (tlt (by decide : ((-1 : Int32) < (0 : Int32)))).1) (by decide) (by decide) k) ?_
  show Go _ _ _ _ (T1.setTop (mkF m 122 #[.val (.ref b5), .val (.int (-1 : Int32))] []))
  refine Go.step (fun _ k => XS.iconst X1.here hx rfl (hb hby d3_122) k) ?_
  show Go _ _ _ _ (T1.setTop (mkF m 123 #[.val (.ref b5), .val (.int (-1 : Int32))] [(.int (0 : Int32))]))
  exact leafN X1 hx (t := .boolean) hret (by simp) hlk (w := (0 : Int32)) rfl (hb hby d3_123) ⟨rfl, e1, rfl⟩ (by decide) (by decide)
set_option maxRecDepth 65536 in
set_option maxHeartbeats 40000000 in
theorem rh5_p (l : Launch) (Z : State) (a0 : Array Value) (hw : ∀ d ∈ tables_1, d.before a0 Z = true) (ws : List Jvm.Cond)  (h0 : Heap) (b0 b1 b2 b3 b4 b5 : Addr) (hO : Ops Z h0 b0 b1 b2 b3 b4 b5) : Con l Z (⟨"com/example/topiq/topiq/sql/SqlExpression$Operator", "holds", "(I)Z"⟩ : MethodName) prog_58_method_6_code 2 (some .boolean) ws ({ frames := 1, cells := 0, slots := 0, locals := 12 } : Room) #[(.ref b5), (.int (1 : Int32))] h0 (fun v h L => v = some (.int (1 : Int32)) ∧ h = h0 ∧ L = []) := by
  refine Con.of pn3 fun p e s m below meth c s₁ hZ hx hby hml hown hret hlk hnm X0 e0 => ?_
  rw [ef3]
  obtain ⟨⟨S0, E0, F0⟩, ⟨S1, E1, F1⟩, ⟨S2, E2, F2⟩, ⟨S3, E3, F3⟩, ⟨S4, E4, F4⟩, ⟨S5, E5, F5⟩⟩ := hO
  show Go _ _ _ _ (s₁.setTop (mkF m 0 #[.val (.ref b5), .val (.int (1 : Int32))] []))
  refine Go.step (fun _ k => XS.aloadN X0.here hx rfl (hb hby d3_0) rfl rfl k) ?_
  show Go _ _ _ _ (s₁.setTop (mkF m 1 #[.val (.ref b5), .val (.int (1 : Int32))] [(.ref b5)]))
  refine goVU X0 hx hZ (owner := "java/lang/Enum") hown (hw _ (List.mem_of_getElem? (i := 19) rfl)) (hw _ (List.mem_of_getElem? (i := 20) rfl)) (hw _ (List.mem_of_getElem? (i := 21) rfl)) (by decide) (hw _ (List.mem_of_getElem? (i := 23) rfl)) (hw _ (List.mem_of_getElem? (i := 22) rfl)) (hw _ (List.mem_of_getElem? (i := 24) rfl)) (hw _ (List.mem_of_getElem? (i := 25) rfl)) (rm4 l Z a0 hw [] b5 h0 (5 : Int32) F5) e0 E5 (by rw [hml]; rfl) [] [] rfl pd4 rfl rfl 0 rfl (hb hby d3_1) (by decide) (by decide) (by decide) (by decide) fun T1 L1 v1 q1 X1 => ?_
  obtain ⟨rfl, e1, rfl⟩ := q1
  rw [List.append_nil] at X1
  show Go _ _ _ _ (T1.setTop (mkF m 4 #[.val (.ref b5), .val (.int (1 : Int32))] [(.int (5 : Int32))]))
  refine Go.step (fun _ k => XS.tswIn X1.here hx rfl (pc0 := 4) (pc' := 114) rfl (hb hby d3_4) rfl (by decide) (o := 110) (by decide) (by decide) (by decide) k) ?_
  show Go _ _ _ _ (T1.setTop (mkF m 114 #[.val (.ref b5), .val (.int (1 : Int32))] []))
  refine Go.step (fun _ k => XS.iloadN X1.here hx rfl (hb hby d3_114) rfl k) ?_
  show Go _ _ _ _ (T1.setTop (mkF m 115 #[.val (.ref b5), .val (.int (1 : Int32))] [(.int (1 : Int32))]))
  refine Go.step (fun _ k => XS.ifNo X1.here hx rfl (hb hby d3_115) rfl ((if0 _ _).trans (flt (by decide : ¬ ((1 : Int32) < (0 : Int32)))).1) k) ?_
  show Go _ _ _ _ (T1.setTop (mkF m 118 #[.val (.ref b5), .val (.int (1 : Int32))] []))
  refine Go.step (fun _ k => XS.iconst X1.here hx rfl (hb hby d3_118) k) ?_
  show Go _ _ _ _ (T1.setTop (mkF m 119 #[.val (.ref b5), .val (.int (1 : Int32))] [(.int (1 : Int32))]))
  refine Go.step (fun _ k => XS.goto X1.here hx rfl (pc0 := 119) (pc' := 123) rfl (hb hby d3_119) (by decide) (by decide) k) ?_
  show Go _ _ _ _ (T1.setTop (mkF m 123 #[.val (.ref b5), .val (.int (1 : Int32))] [(.int (1 : Int32))]))
  exact leafN X1 hx (t := .boolean) hret (by simp) hlk (w := (1 : Int32)) rfl (hb hby d3_123) ⟨rfl, e1, rfl⟩ (by decide) (by decide)
theorem pn0 : plainFor x = true := plainFor_of_name (by first | (simp [plainName, overriddenIn, x]; done) | decide +kernel)
theorem ef0 (m : MethodId) (x0 : Int32) : entryFrame m #[(.int x0)] maxLocals = mkF m 0 #[.val (.int x0), .unset, .unset, .unset, .unset, .unset] [] := by first | (simp [entryFrame, mkF, argsToLocals, Value.category, maxLocals]; done) | rfl
set_option maxRecDepth 65536 in
set_option maxHeartbeats 40000000 in
theorem rm0 (l : Launch) (Z : State) (a0 : Array Value) (hw : ∀ d ∈ tables_1, d.before a0 Z = true) (ws : List Jvm.Cond) (x0 : Int32) (h0 : Heap) (b0 b1 b2 b3 b4 b5 : Addr) (hO : Ops Z h0 b0 b1 b2 b3 b4 b5) : Con l Z x code maxLocals ret ws room_1 #[(.int x0)] h0 (fun v h L => v = some (.int 1) ∧ Fr h0.size L) := by
  refine Con.of pn0 fun p e s m below meth c s₁ hZ hx hby hml hown hret hlk hnm X0 e0 => ?_
  rw [ef0]
  show Go _ _ _ _ (s₁.setTop (mkF m 0 #[.val (.int x0), .unset, .unset, .unset, .unset, .unset] []))
  refine Go.step (fun _ k => XS.iloadN X0.here hx rfl (hb hby at_0) rfl k) ?_
  show Go _ _ _ _ (s₁.setTop (mkF m 1 #[.val (.int x0), .unset, .unset, .unset, .unset, .unset] [(.int x0)]))
  refine Go.step (X0.ldcInt hx hown (mvT hZ (hw _ (List.mem_of_getElem? (i := 0) rfl))) (g := (mkF m 1 #[.val (.int x0), .unset, .unset, .unset, .unset, .unset] [(.int x0)])) rfl (hb hby at_1)) ?_
  show Go _ _ _ _ (s₁.setTop (mkF m 3 #[.val (.int x0), .unset, .unset, .unset, .unset, .unset] [(.int (2147483647 : Int32)), (.int x0)]))
  refine Go.step (fun _ k => XS.iand X0.here hx rfl (hb hby at_3) rfl k) ?_
  show Go _ _ _ _ (s₁.setTop (mkF m 4 #[.val (.int x0), .unset, .unset, .unset, .unset, .unset] [(.int (x0 &&& (2147483647 : Int32)))]))
  refine Go.step (fun _ k => XS.bipush X0.here hx rfl (hb hby at_4) k) ?_
  show Go _ _ _ _ (s₁.setTop (mkF m 6 #[.val (.int x0), .unset, .unset, .unset, .unset, .unset] [(.int (6 : Int32)), (.int (x0 &&& (2147483647 : Int32)))]))
  refine Go.step (fun _ k => XS.irem X0.here hx rfl (hb hby at_6) rfl (by decide) k) ?_
  show Go _ _ _ _ (s₁.setTop (mkF m 7 #[.val (.int x0), .unset, .unset, .unset, .unset, .unset] [(.int ((x0 &&& (2147483647 : Int32)) - ((x0 &&& (2147483647 : Int32)) / (6 : Int32)) * (6 : Int32)))]))
  refine Go.step (fun _ k => XS.istoreN X0.here hx rfl (hb hby at_7) rfl (l' := #[.val (.int x0), .val (.int ((x0 &&& (2147483647 : Int32)) - ((x0 &&& (2147483647 : Int32)) / (6 : Int32)) * (6 : Int32))), .unset, .unset, .unset, .unset]) rfl k) ?_
  show Go _ _ _ _ (s₁.setTop (mkF m 8 #[.val (.int x0), .val (.int ((x0 &&& (2147483647 : Int32)) - ((x0 &&& (2147483647 : Int32)) / (6 : Int32)) * (6 : Int32))), .unset, .unset, .unset, .unset] []))
  rcases own_six x0 with hk | hk | hk | hk | hk | hk
  · rw [hk]
    show Go _ _ _ _ (s₁.setTop (mkF m 8 #[.val (.int x0), .val (.int (0 : Int32)), .unset, .unset, .unset, .unset] []))
    refine Go.step (fun _ k => XS.iloadN X0.here hx rfl (hb hby at_8) rfl k) ?_
    show Go _ _ _ _ (s₁.setTop (mkF m 9 #[.val (.int x0), .val (.int (0 : Int32)), .unset, .unset, .unset, .unset] [(.int (0 : Int32))]))
    refine goS X0 hx hZ hown (hw _ (List.mem_of_getElem? (i := 1) rfl)) (hw _ (List.mem_of_getElem? (i := 2) rfl)) (hw _ (List.mem_of_getElem? (i := 3) rfl)) (hw _ (List.mem_of_getElem? (i := 4) rfl)) (by decide) (rp0 l Z a0 hw [] h0 b0 b1 b2 b3 b4 b5 hO) e0 (by rw [hml]; rfl) [(.int (0 : Int32))] [] rfl pd1 rfl rfl 0 rfl (hb hby at_9) (by decide) (by decide) (by decide) (by decide) fun T1 L1 v1 q1 X1 => ?_
    obtain ⟨rfl, e1, rfl⟩ := q1
    rw [List.append_nil] at X1
    show Go _ _ _ _ (T1.setTop (mkF m 12 #[.val (.int x0), .val (.int (0 : Int32)), .unset, .unset, .unset, .unset] [(.ref b0)]))
    refine Go.step (fun _ k => XS.astoreN X1.here hx rfl (hb hby at_12) rfl rfl (l' := #[.val (.int x0), .val (.int (0 : Int32)), .val (.ref b0), .unset, .unset, .unset]) rfl k) ?_
    show Go _ _ _ _ (T1.setTop (mkF m 13 #[.val (.int x0), .val (.int (0 : Int32)), .val (.ref b0), .unset, .unset, .unset] []))
    refine Go.step (fun _ k => XS.iloadN X1.here hx rfl (hb hby at_13) rfl k) ?_
    show Go _ _ _ _ (T1.setTop (mkF m 14 #[.val (.int x0), .val (.int (0 : Int32)), .val (.ref b0), .unset, .unset, .unset] [(.int (0 : Int32))]))
    refine Go.step (fun _ k => XS.iconst X1.here hx rfl (hb hby at_14) k) ?_
    show Go _ _ _ _ (T1.setTop (mkF m 15 #[.val (.int x0), .val (.int (0 : Int32)), .val (.ref b0), .unset, .unset, .unset] [(.int (2 : Int32)), (.int (0 : Int32))]))
    refine Go.step (fun _ k => XS.icmpYes X1.here hx rfl (pc0 := 15) (pc' := 22) rfl (hb hby at_15) rfl (tlt (by decide : ((0 : Int32) < (2 : Int32)))).1 (by decide) (by decide) k) ?_
    show Go _ _ _ _ (T1.setTop (mkF m 22 #[.val (.int x0), .val (.int (0 : Int32)), .val (.ref b0), .unset, .unset, .unset] []))
    refine Go.step (fun _ k => XS.iconst X1.here hx rfl (hb hby at_22) k) ?_
    show Go _ _ _ _ (T1.setTop (mkF m 23 #[.val (.int x0), .val (.int (0 : Int32)), .val (.ref b0), .unset, .unset, .unset] [(.int (0 : Int32))]))
    refine Go.step (fun _ k => XS.istoreN X1.here hx rfl (hb hby at_23) rfl (l' := #[.val (.int x0), .val (.int (0 : Int32)), .val (.ref b0), .val (.int (0 : Int32)), .unset, .unset]) rfl k) ?_
    show Go _ _ _ _ (T1.setTop (mkF m 24 #[.val (.int x0), .val (.int (0 : Int32)), .val (.ref b0), .val (.int (0 : Int32)), .unset, .unset] []))
    refine Go.step (fun _ k => XS.aloadN X1.here hx rfl (hb hby at_24) rfl rfl k) ?_
    show Go _ _ _ _ (T1.setTop (mkF m 25 #[.val (.int x0), .val (.int (0 : Int32)), .val (.ref b0), .val (.int (0 : Int32)), .unset, .unset] [(.ref b0)]))
    refine goV X1 hx hZ hown (hw _ (List.mem_of_getElem? (i := 8) rfl)) (hw _ (List.mem_of_getElem? (i := 9) rfl)) (notFace_of_selects (args := #[]) (mvT hZ (hw _ (List.mem_of_getElem? (i := 11) rfl)))) (hw _ (List.mem_of_getElem? (i := 11) rfl)) (hw _ (List.mem_of_getElem? (i := 10) rfl)) (hw _ (List.mem_of_getElem? (i := 6) rfl)) (hw _ (List.mem_of_getElem? (i := 12) rfl)) (by decide) (ro0 l Z a0 hw [] h0 b0 b1 b2 b3 b4 b5 hO) e1 hO.1.2.1 (by rw [hml]; rfl) [] [] rfl pd2 rfl rfl 0 rfl (hb hby at_25) (by decide) (by decide) (by decide) (by decide) fun T2 L2 v2 q2 X2 => ?_
    obtain ⟨rfl, e2, rfl⟩ := q2
    rw [List.append_nil] at X2
    show Go _ _ _ _ (T2.setTop (mkF m 28 #[.val (.int x0), .val (.int (0 : Int32)), .val (.ref b0), .val (.int (0 : Int32)), .unset, .unset] [(.int (0 : Int32))]))
    refine Go.step (fun _ k => XS.istore X2.here hx rfl (hb hby at_28) rfl (l' := #[.val (.int x0), .val (.int (0 : Int32)), .val (.ref b0), .val (.int (0 : Int32)), .val (.int (0 : Int32)), .unset]) rfl k) ?_
    show Go _ _ _ _ (T2.setTop (mkF m 30 #[.val (.int x0), .val (.int (0 : Int32)), .val (.ref b0), .val (.int (0 : Int32)), .val (.int (0 : Int32)), .unset] []))
    refine Go.step (fun _ k => XS.iload X2.here hx rfl (hb hby at_30) rfl k) ?_
    show Go _ _ _ _ (T2.setTop (mkF m 32 #[.val (.int x0), .val (.int (0 : Int32)), .val (.ref b0), .val (.int (0 : Int32)), .val (.int (0 : Int32)), .unset] [(.int (0 : Int32))]))
    refine Go.step (fun _ k => XS.aloadN X2.here hx rfl (hb hby at_32) rfl rfl k) ?_
    show Go _ _ _ _ (T2.setTop (mkF m 33 #[.val (.int x0), .val (.int (0 : Int32)), .val (.ref b0), .val (.int (0 : Int32)), .val (.int (0 : Int32)), .unset] [(.ref b0), (.int (0 : Int32))]))
    refine Go.step (fun _ k => XS.iconst X2.here hx rfl (hb hby at_33) k) ?_
    show Go _ _ _ _ (T2.setTop (mkF m 34 #[.val (.int x0), .val (.int (0 : Int32)), .val (.ref b0), .val (.int (0 : Int32)), .val (.int (0 : Int32)), .unset] [(.int (-1 : Int32)), (.ref b0), (.int (0 : Int32))]))
    refine goV X2 hx hZ hown (hw _ (List.mem_of_getElem? (i := 14) rfl)) (hw _ (List.mem_of_getElem? (i := 15) rfl)) (notFace_of_selects (args := #[]) (mvT hZ (hw _ (List.mem_of_getElem? (i := 17) rfl)))) (hw _ (List.mem_of_getElem? (i := 17) rfl)) (hw _ (List.mem_of_getElem? (i := 16) rfl)) (hw _ (List.mem_of_getElem? (i := 6) rfl)) (hw _ (List.mem_of_getElem? (i := 18) rfl)) (by decide) (rh0_m l Z a0 hw [] h0 b0 b1 b2 b3 b4 b5 hO) e2 hO.1.2.1 (by rw [hml]; rfl) [(.int (-1 : Int32))] [(.int (0 : Int32))] rfl pd3 rfl rfl 1 rfl (hb hby at_34) (by decide) (by decide) (by decide) (by decide) fun T3 L3 v3 q3 X3 => ?_
    obtain ⟨rfl, e3, rfl⟩ := q3
    rw [List.append_nil] at X3
    show Go _ _ _ _ (T3.setTop (mkF m 37 #[.val (.int x0), .val (.int (0 : Int32)), .val (.ref b0), .val (.int (0 : Int32)), .val (.int (0 : Int32)), .unset] [(.int (0 : Int32)), (.int (0 : Int32))]))
    refine Go.step (fun _ k => XS.aloadN X3.here hx rfl (hb hby at_37) rfl rfl k) ?_
    show Go _ _ _ _ (T3.setTop (mkF m 38 #[.val (.int x0), .val (.int (0 : Int32)), .val (.ref b0), .val (.int (0 : Int32)), .val (.int (0 : Int32)), .unset] [(.ref b0), (.int (0 : Int32)), (.int (0 : Int32))]))
    refine Go.step (fun _ k => XS.iconst X3.here hx rfl (hb hby at_38) k) ?_
    show Go _ _ _ _ (T3.setTop (mkF m 39 #[.val (.int x0), .val (.int (0 : Int32)), .val (.ref b0), .val (.int (0 : Int32)), .val (.int (0 : Int32)), .unset] [(.int (1 : Int32)), (.ref b0), (.int (0 : Int32)), (.int (0 : Int32))]))
    refine goV X3 hx hZ hown (hw _ (List.mem_of_getElem? (i := 14) rfl)) (hw _ (List.mem_of_getElem? (i := 15) rfl)) (notFace_of_selects (args := #[]) (mvT hZ (hw _ (List.mem_of_getElem? (i := 17) rfl)))) (hw _ (List.mem_of_getElem? (i := 17) rfl)) (hw _ (List.mem_of_getElem? (i := 16) rfl)) (hw _ (List.mem_of_getElem? (i := 6) rfl)) (hw _ (List.mem_of_getElem? (i := 18) rfl)) (by decide) (rh0_p l Z a0 hw [] h0 b0 b1 b2 b3 b4 b5 hO) e3 hO.1.2.1 (by rw [hml]; rfl) [(.int (1 : Int32))] [(.int (0 : Int32)), (.int (0 : Int32))] rfl pd3 rfl rfl 2 rfl (hb hby at_39) (by decide) (by decide) (by decide) (by decide) fun T4 L4 v4 q4 X4 => ?_
    obtain ⟨rfl, e4, rfl⟩ := q4
    rw [List.append_nil] at X4
    show Go _ _ _ _ (T4.setTop (mkF m 42 #[.val (.int x0), .val (.int (0 : Int32)), .val (.ref b0), .val (.int (0 : Int32)), .val (.int (0 : Int32)), .unset] [(.int (0 : Int32)), (.int (0 : Int32)), (.int (0 : Int32))]))
    refine Go.step (fun _ k => XS.icmpYes X4.here hx rfl (pc0 := 42) (pc' := 49) rfl (hb hby at_42) rfl (teq (by decide : ((0 : Int32) = (0 : Int32)))).1 (by decide) (by decide) k) ?_
    show Go _ _ _ _ (T4.setTop (mkF m 49 #[.val (.int x0), .val (.int (0 : Int32)), .val (.ref b0), .val (.int (0 : Int32)), .val (.int (0 : Int32)), .unset] [(.int (0 : Int32))]))
    refine Go.step (fun _ k => XS.iconst X4.here hx rfl (hb hby at_49) k) ?_
    show Go _ _ _ _ (T4.setTop (mkF m 50 #[.val (.int x0), .val (.int (0 : Int32)), .val (.ref b0), .val (.int (0 : Int32)), .val (.int (0 : Int32)), .unset] [(.int (0 : Int32)), (.int (0 : Int32))]))
    refine Go.step (fun _ k => XS.icmpNo X4.here hx rfl (hb hby at_50) rfl (teq (by decide : ((0 : Int32) = (0 : Int32)))).2 k) ?_
    show Go _ _ _ _ (T4.setTop (mkF m 53 #[.val (.int x0), .val (.int (0 : Int32)), .val (.ref b0), .val (.int (0 : Int32)), .val (.int (0 : Int32)), .unset] []))
    refine Go.step (fun _ k => XS.iconst X4.here hx rfl (hb hby at_53) k) ?_
    show Go _ _ _ _ (T4.setTop (mkF m 54 #[.val (.int x0), .val (.int (0 : Int32)), .val (.ref b0), .val (.int (0 : Int32)), .val (.int (0 : Int32)), .unset] [(.int (1 : Int32))]))
    refine Go.step (fun _ k => XS.goto X4.here hx rfl (pc0 := 54) (pc' := 58) rfl (hb hby at_54) (by decide) (by decide) k) ?_
    show Go _ _ _ _ (T4.setTop (mkF m 58 #[.val (.int x0), .val (.int (0 : Int32)), .val (.ref b0), .val (.int (0 : Int32)), .val (.int (0 : Int32)), .unset] [(.int (1 : Int32))]))
    refine Go.step (fun _ k => XS.istore X4.here hx rfl (hb hby at_58) rfl (l' := #[.val (.int x0), .val (.int (0 : Int32)), .val (.ref b0), .val (.int (0 : Int32)), .val (.int (0 : Int32)), .val (.int (1 : Int32))]) rfl k) ?_
    show Go _ _ _ _ (T4.setTop (mkF m 60 #[.val (.int x0), .val (.int (0 : Int32)), .val (.ref b0), .val (.int (0 : Int32)), .val (.int (0 : Int32)), .val (.int (1 : Int32))] []))
    refine Go.step (fun _ k => XS.iload X4.here hx rfl (hb hby at_60) rfl k) ?_
    show Go _ _ _ _ (T4.setTop (mkF m 62 #[.val (.int x0), .val (.int (0 : Int32)), .val (.ref b0), .val (.int (0 : Int32)), .val (.int (0 : Int32)), .val (.int (1 : Int32))] [(.int (0 : Int32))]))
    refine Go.step (fun _ k => XS.iloadN X4.here hx rfl (hb hby at_62) rfl k) ?_
    show Go _ _ _ _ (T4.setTop (mkF m 63 #[.val (.int x0), .val (.int (0 : Int32)), .val (.ref b0), .val (.int (0 : Int32)), .val (.int (0 : Int32)), .val (.int (1 : Int32))] [(.int (0 : Int32)), (.int (0 : Int32))]))
    refine Go.step (fun _ k => XS.icmpNo X4.here hx rfl (hb hby at_63) rfl (teq (by decide : ((0 : Int32) = (0 : Int32)))).2 k) ?_
    show Go _ _ _ _ (T4.setTop (mkF m 66 #[.val (.int x0), .val (.int (0 : Int32)), .val (.ref b0), .val (.int (0 : Int32)), .val (.int (0 : Int32)), .val (.int (1 : Int32))] []))
    refine Go.step (fun _ k => XS.iload X4.here hx rfl (hb hby at_66) rfl k) ?_
    show Go _ _ _ _ (T4.setTop (mkF m 68 #[.val (.int x0), .val (.int (0 : Int32)), .val (.ref b0), .val (.int (0 : Int32)), .val (.int (0 : Int32)), .val (.int (1 : Int32))] [(.int (1 : Int32))]))
    refine Go.step (fun _ k => XS.ifNo X4.here hx rfl (hb hby at_68) rfl ((if0 _ _).trans (feq (by decide : ¬ ((1 : Int32) = (0 : Int32)))).1) k) ?_
    show Go _ _ _ _ (T4.setTop (mkF m 71 #[.val (.int x0), .val (.int (0 : Int32)), .val (.ref b0), .val (.int (0 : Int32)), .val (.int (0 : Int32)), .val (.int (1 : Int32))] []))
    refine Go.step (fun _ k => XS.iconst X4.here hx rfl (hb hby at_71) k) ?_
    show Go _ _ _ _ (T4.setTop (mkF m 72 #[.val (.int x0), .val (.int (0 : Int32)), .val (.ref b0), .val (.int (0 : Int32)), .val (.int (0 : Int32)), .val (.int (1 : Int32))] [(.int (1 : Int32))]))
    refine Go.step (fun _ k => XS.goto X4.here hx rfl (pc0 := 72) (pc' := 76) rfl (hb hby at_72) (by decide) (by decide) k) ?_
    show Go _ _ _ _ (T4.setTop (mkF m 76 #[.val (.int x0), .val (.int (0 : Int32)), .val (.ref b0), .val (.int (0 : Int32)), .val (.int (0 : Int32)), .val (.int (1 : Int32))] [(.int (1 : Int32))]))
    exact leafN X4 hx (t := .boolean) hret (by simp) hlk (w := (1 : Int32)) rfl (hb hby at_76) ⟨rfl, Fr.nil _⟩ (by decide) (by decide)
  · rw [hk]
    show Go _ _ _ _ (s₁.setTop (mkF m 8 #[.val (.int x0), .val (.int (1 : Int32)), .unset, .unset, .unset, .unset] []))
    refine Go.step (fun _ k => XS.iloadN X0.here hx rfl (hb hby at_8) rfl k) ?_
    show Go _ _ _ _ (s₁.setTop (mkF m 9 #[.val (.int x0), .val (.int (1 : Int32)), .unset, .unset, .unset, .unset] [(.int (1 : Int32))]))
    refine goS X0 hx hZ hown (hw _ (List.mem_of_getElem? (i := 1) rfl)) (hw _ (List.mem_of_getElem? (i := 2) rfl)) (hw _ (List.mem_of_getElem? (i := 3) rfl)) (hw _ (List.mem_of_getElem? (i := 4) rfl)) (by decide) (rp1 l Z a0 hw [] h0 b0 b1 b2 b3 b4 b5 hO) e0 (by rw [hml]; rfl) [(.int (1 : Int32))] [] rfl pd1 rfl rfl 0 rfl (hb hby at_9) (by decide) (by decide) (by decide) (by decide) fun T5 L5 v5 q5 X5 => ?_
    obtain ⟨rfl, e5, rfl⟩ := q5
    rw [List.append_nil] at X5
    show Go _ _ _ _ (T5.setTop (mkF m 12 #[.val (.int x0), .val (.int (1 : Int32)), .unset, .unset, .unset, .unset] [(.ref b1)]))
    refine Go.step (fun _ k => XS.astoreN X5.here hx rfl (hb hby at_12) rfl rfl (l' := #[.val (.int x0), .val (.int (1 : Int32)), .val (.ref b1), .unset, .unset, .unset]) rfl k) ?_
    show Go _ _ _ _ (T5.setTop (mkF m 13 #[.val (.int x0), .val (.int (1 : Int32)), .val (.ref b1), .unset, .unset, .unset] []))
    refine Go.step (fun _ k => XS.iloadN X5.here hx rfl (hb hby at_13) rfl k) ?_
    show Go _ _ _ _ (T5.setTop (mkF m 14 #[.val (.int x0), .val (.int (1 : Int32)), .val (.ref b1), .unset, .unset, .unset] [(.int (1 : Int32))]))
    refine Go.step (fun _ k => XS.iconst X5.here hx rfl (hb hby at_14) k) ?_
    show Go _ _ _ _ (T5.setTop (mkF m 15 #[.val (.int x0), .val (.int (1 : Int32)), .val (.ref b1), .unset, .unset, .unset] [(.int (2 : Int32)), (.int (1 : Int32))]))
    refine Go.step (fun _ k => XS.icmpYes X5.here hx rfl (pc0 := 15) (pc' := 22) rfl (hb hby at_15) rfl (tlt (by decide : ((1 : Int32) < (2 : Int32)))).1 (by decide) (by decide) k) ?_
    show Go _ _ _ _ (T5.setTop (mkF m 22 #[.val (.int x0), .val (.int (1 : Int32)), .val (.ref b1), .unset, .unset, .unset] []))
    refine Go.step (fun _ k => XS.iconst X5.here hx rfl (hb hby at_22) k) ?_
    show Go _ _ _ _ (T5.setTop (mkF m 23 #[.val (.int x0), .val (.int (1 : Int32)), .val (.ref b1), .unset, .unset, .unset] [(.int (0 : Int32))]))
    refine Go.step (fun _ k => XS.istoreN X5.here hx rfl (hb hby at_23) rfl (l' := #[.val (.int x0), .val (.int (1 : Int32)), .val (.ref b1), .val (.int (0 : Int32)), .unset, .unset]) rfl k) ?_
    show Go _ _ _ _ (T5.setTop (mkF m 24 #[.val (.int x0), .val (.int (1 : Int32)), .val (.ref b1), .val (.int (0 : Int32)), .unset, .unset] []))
    refine Go.step (fun _ k => XS.aloadN X5.here hx rfl (hb hby at_24) rfl rfl k) ?_
    show Go _ _ _ _ (T5.setTop (mkF m 25 #[.val (.int x0), .val (.int (1 : Int32)), .val (.ref b1), .val (.int (0 : Int32)), .unset, .unset] [(.ref b1)]))
    refine goV X5 hx hZ hown (hw _ (List.mem_of_getElem? (i := 8) rfl)) (hw _ (List.mem_of_getElem? (i := 9) rfl)) (notFace_of_selects (args := #[]) (mvT hZ (hw _ (List.mem_of_getElem? (i := 11) rfl)))) (hw _ (List.mem_of_getElem? (i := 11) rfl)) (hw _ (List.mem_of_getElem? (i := 10) rfl)) (hw _ (List.mem_of_getElem? (i := 6) rfl)) (hw _ (List.mem_of_getElem? (i := 12) rfl)) (by decide) (ro1 l Z a0 hw [] h0 b0 b1 b2 b3 b4 b5 hO) e5 hO.2.1.2.1 (by rw [hml]; rfl) [] [] rfl pd2 rfl rfl 0 rfl (hb hby at_25) (by decide) (by decide) (by decide) (by decide) fun T6 L6 v6 q6 X6 => ?_
    obtain ⟨rfl, e6, rfl⟩ := q6
    rw [List.append_nil] at X6
    show Go _ _ _ _ (T6.setTop (mkF m 28 #[.val (.int x0), .val (.int (1 : Int32)), .val (.ref b1), .val (.int (0 : Int32)), .unset, .unset] [(.int (0 : Int32))]))
    refine Go.step (fun _ k => XS.istore X6.here hx rfl (hb hby at_28) rfl (l' := #[.val (.int x0), .val (.int (1 : Int32)), .val (.ref b1), .val (.int (0 : Int32)), .val (.int (0 : Int32)), .unset]) rfl k) ?_
    show Go _ _ _ _ (T6.setTop (mkF m 30 #[.val (.int x0), .val (.int (1 : Int32)), .val (.ref b1), .val (.int (0 : Int32)), .val (.int (0 : Int32)), .unset] []))
    refine Go.step (fun _ k => XS.iload X6.here hx rfl (hb hby at_30) rfl k) ?_
    show Go _ _ _ _ (T6.setTop (mkF m 32 #[.val (.int x0), .val (.int (1 : Int32)), .val (.ref b1), .val (.int (0 : Int32)), .val (.int (0 : Int32)), .unset] [(.int (0 : Int32))]))
    refine Go.step (fun _ k => XS.aloadN X6.here hx rfl (hb hby at_32) rfl rfl k) ?_
    show Go _ _ _ _ (T6.setTop (mkF m 33 #[.val (.int x0), .val (.int (1 : Int32)), .val (.ref b1), .val (.int (0 : Int32)), .val (.int (0 : Int32)), .unset] [(.ref b1), (.int (0 : Int32))]))
    refine Go.step (fun _ k => XS.iconst X6.here hx rfl (hb hby at_33) k) ?_
    show Go _ _ _ _ (T6.setTop (mkF m 34 #[.val (.int x0), .val (.int (1 : Int32)), .val (.ref b1), .val (.int (0 : Int32)), .val (.int (0 : Int32)), .unset] [(.int (-1 : Int32)), (.ref b1), (.int (0 : Int32))]))
    refine goV X6 hx hZ hown (hw _ (List.mem_of_getElem? (i := 14) rfl)) (hw _ (List.mem_of_getElem? (i := 15) rfl)) (notFace_of_selects (args := #[]) (mvT hZ (hw _ (List.mem_of_getElem? (i := 17) rfl)))) (hw _ (List.mem_of_getElem? (i := 17) rfl)) (hw _ (List.mem_of_getElem? (i := 16) rfl)) (hw _ (List.mem_of_getElem? (i := 6) rfl)) (hw _ (List.mem_of_getElem? (i := 18) rfl)) (by decide) (rh1_m l Z a0 hw [] h0 b0 b1 b2 b3 b4 b5 hO) e6 hO.2.1.2.1 (by rw [hml]; rfl) [(.int (-1 : Int32))] [(.int (0 : Int32))] rfl pd3 rfl rfl 1 rfl (hb hby at_34) (by decide) (by decide) (by decide) (by decide) fun T7 L7 v7 q7 X7 => ?_
    obtain ⟨rfl, e7, rfl⟩ := q7
    rw [List.append_nil] at X7
    show Go _ _ _ _ (T7.setTop (mkF m 37 #[.val (.int x0), .val (.int (1 : Int32)), .val (.ref b1), .val (.int (0 : Int32)), .val (.int (0 : Int32)), .unset] [(.int (1 : Int32)), (.int (0 : Int32))]))
    refine Go.step (fun _ k => XS.aloadN X7.here hx rfl (hb hby at_37) rfl rfl k) ?_
    show Go _ _ _ _ (T7.setTop (mkF m 38 #[.val (.int x0), .val (.int (1 : Int32)), .val (.ref b1), .val (.int (0 : Int32)), .val (.int (0 : Int32)), .unset] [(.ref b1), (.int (1 : Int32)), (.int (0 : Int32))]))
    refine Go.step (fun _ k => XS.iconst X7.here hx rfl (hb hby at_38) k) ?_
    show Go _ _ _ _ (T7.setTop (mkF m 39 #[.val (.int x0), .val (.int (1 : Int32)), .val (.ref b1), .val (.int (0 : Int32)), .val (.int (0 : Int32)), .unset] [(.int (1 : Int32)), (.ref b1), (.int (1 : Int32)), (.int (0 : Int32))]))
    refine goV X7 hx hZ hown (hw _ (List.mem_of_getElem? (i := 14) rfl)) (hw _ (List.mem_of_getElem? (i := 15) rfl)) (notFace_of_selects (args := #[]) (mvT hZ (hw _ (List.mem_of_getElem? (i := 17) rfl)))) (hw _ (List.mem_of_getElem? (i := 17) rfl)) (hw _ (List.mem_of_getElem? (i := 16) rfl)) (hw _ (List.mem_of_getElem? (i := 6) rfl)) (hw _ (List.mem_of_getElem? (i := 18) rfl)) (by decide) (rh1_p l Z a0 hw [] h0 b0 b1 b2 b3 b4 b5 hO) e7 hO.2.1.2.1 (by rw [hml]; rfl) [(.int (1 : Int32))] [(.int (1 : Int32)), (.int (0 : Int32))] rfl pd3 rfl rfl 2 rfl (hb hby at_39) (by decide) (by decide) (by decide) (by decide) fun T8 L8 v8 q8 X8 => ?_
    obtain ⟨rfl, e8, rfl⟩ := q8
    rw [List.append_nil] at X8
    show Go _ _ _ _ (T8.setTop (mkF m 42 #[.val (.int x0), .val (.int (1 : Int32)), .val (.ref b1), .val (.int (0 : Int32)), .val (.int (0 : Int32)), .unset] [(.int (1 : Int32)), (.int (1 : Int32)), (.int (0 : Int32))]))
    refine Go.step (fun _ k => XS.icmpYes X8.here hx rfl (pc0 := 42) (pc' := 49) rfl (hb hby at_42) rfl (teq (by decide : ((1 : Int32) = (1 : Int32)))).1 (by decide) (by decide) k) ?_
    show Go _ _ _ _ (T8.setTop (mkF m 49 #[.val (.int x0), .val (.int (1 : Int32)), .val (.ref b1), .val (.int (0 : Int32)), .val (.int (0 : Int32)), .unset] [(.int (0 : Int32))]))
    refine Go.step (fun _ k => XS.iconst X8.here hx rfl (hb hby at_49) k) ?_
    show Go _ _ _ _ (T8.setTop (mkF m 50 #[.val (.int x0), .val (.int (1 : Int32)), .val (.ref b1), .val (.int (0 : Int32)), .val (.int (0 : Int32)), .unset] [(.int (0 : Int32)), (.int (0 : Int32))]))
    refine Go.step (fun _ k => XS.icmpNo X8.here hx rfl (hb hby at_50) rfl (teq (by decide : ((0 : Int32) = (0 : Int32)))).2 k) ?_
    show Go _ _ _ _ (T8.setTop (mkF m 53 #[.val (.int x0), .val (.int (1 : Int32)), .val (.ref b1), .val (.int (0 : Int32)), .val (.int (0 : Int32)), .unset] []))
    refine Go.step (fun _ k => XS.iconst X8.here hx rfl (hb hby at_53) k) ?_
    show Go _ _ _ _ (T8.setTop (mkF m 54 #[.val (.int x0), .val (.int (1 : Int32)), .val (.ref b1), .val (.int (0 : Int32)), .val (.int (0 : Int32)), .unset] [(.int (1 : Int32))]))
    refine Go.step (fun _ k => XS.goto X8.here hx rfl (pc0 := 54) (pc' := 58) rfl (hb hby at_54) (by decide) (by decide) k) ?_
    show Go _ _ _ _ (T8.setTop (mkF m 58 #[.val (.int x0), .val (.int (1 : Int32)), .val (.ref b1), .val (.int (0 : Int32)), .val (.int (0 : Int32)), .unset] [(.int (1 : Int32))]))
    refine Go.step (fun _ k => XS.istore X8.here hx rfl (hb hby at_58) rfl (l' := #[.val (.int x0), .val (.int (1 : Int32)), .val (.ref b1), .val (.int (0 : Int32)), .val (.int (0 : Int32)), .val (.int (1 : Int32))]) rfl k) ?_
    show Go _ _ _ _ (T8.setTop (mkF m 60 #[.val (.int x0), .val (.int (1 : Int32)), .val (.ref b1), .val (.int (0 : Int32)), .val (.int (0 : Int32)), .val (.int (1 : Int32))] []))
    refine Go.step (fun _ k => XS.iload X8.here hx rfl (hb hby at_60) rfl k) ?_
    show Go _ _ _ _ (T8.setTop (mkF m 62 #[.val (.int x0), .val (.int (1 : Int32)), .val (.ref b1), .val (.int (0 : Int32)), .val (.int (0 : Int32)), .val (.int (1 : Int32))] [(.int (0 : Int32))]))
    refine Go.step (fun _ k => XS.iloadN X8.here hx rfl (hb hby at_62) rfl k) ?_
    show Go _ _ _ _ (T8.setTop (mkF m 63 #[.val (.int x0), .val (.int (1 : Int32)), .val (.ref b1), .val (.int (0 : Int32)), .val (.int (0 : Int32)), .val (.int (1 : Int32))] [(.int (0 : Int32)), (.int (0 : Int32))]))
    refine Go.step (fun _ k => XS.icmpNo X8.here hx rfl (hb hby at_63) rfl (teq (by decide : ((0 : Int32) = (0 : Int32)))).2 k) ?_
    show Go _ _ _ _ (T8.setTop (mkF m 66 #[.val (.int x0), .val (.int (1 : Int32)), .val (.ref b1), .val (.int (0 : Int32)), .val (.int (0 : Int32)), .val (.int (1 : Int32))] []))
    refine Go.step (fun _ k => XS.iload X8.here hx rfl (hb hby at_66) rfl k) ?_
    show Go _ _ _ _ (T8.setTop (mkF m 68 #[.val (.int x0), .val (.int (1 : Int32)), .val (.ref b1), .val (.int (0 : Int32)), .val (.int (0 : Int32)), .val (.int (1 : Int32))] [(.int (1 : Int32))]))
    refine Go.step (fun _ k => XS.ifNo X8.here hx rfl (hb hby at_68) rfl ((if0 _ _).trans (feq (by decide : ¬ ((1 : Int32) = (0 : Int32)))).1) k) ?_
    show Go _ _ _ _ (T8.setTop (mkF m 71 #[.val (.int x0), .val (.int (1 : Int32)), .val (.ref b1), .val (.int (0 : Int32)), .val (.int (0 : Int32)), .val (.int (1 : Int32))] []))
    refine Go.step (fun _ k => XS.iconst X8.here hx rfl (hb hby at_71) k) ?_
    show Go _ _ _ _ (T8.setTop (mkF m 72 #[.val (.int x0), .val (.int (1 : Int32)), .val (.ref b1), .val (.int (0 : Int32)), .val (.int (0 : Int32)), .val (.int (1 : Int32))] [(.int (1 : Int32))]))
    refine Go.step (fun _ k => XS.goto X8.here hx rfl (pc0 := 72) (pc' := 76) rfl (hb hby at_72) (by decide) (by decide) k) ?_
    show Go _ _ _ _ (T8.setTop (mkF m 76 #[.val (.int x0), .val (.int (1 : Int32)), .val (.ref b1), .val (.int (0 : Int32)), .val (.int (0 : Int32)), .val (.int (1 : Int32))] [(.int (1 : Int32))]))
    exact leafN X8 hx (t := .boolean) hret (by simp) hlk (w := (1 : Int32)) rfl (hb hby at_76) ⟨rfl, Fr.nil _⟩ (by decide) (by decide)
  · rw [hk]
    show Go _ _ _ _ (s₁.setTop (mkF m 8 #[.val (.int x0), .val (.int (2 : Int32)), .unset, .unset, .unset, .unset] []))
    refine Go.step (fun _ k => XS.iloadN X0.here hx rfl (hb hby at_8) rfl k) ?_
    show Go _ _ _ _ (s₁.setTop (mkF m 9 #[.val (.int x0), .val (.int (2 : Int32)), .unset, .unset, .unset, .unset] [(.int (2 : Int32))]))
    refine goS X0 hx hZ hown (hw _ (List.mem_of_getElem? (i := 1) rfl)) (hw _ (List.mem_of_getElem? (i := 2) rfl)) (hw _ (List.mem_of_getElem? (i := 3) rfl)) (hw _ (List.mem_of_getElem? (i := 4) rfl)) (by decide) (rp2 l Z a0 hw [] h0 b0 b1 b2 b3 b4 b5 hO) e0 (by rw [hml]; rfl) [(.int (2 : Int32))] [] rfl pd1 rfl rfl 0 rfl (hb hby at_9) (by decide) (by decide) (by decide) (by decide) fun T9 L9 v9 q9 X9 => ?_
    obtain ⟨rfl, e9, rfl⟩ := q9
    rw [List.append_nil] at X9
    show Go _ _ _ _ (T9.setTop (mkF m 12 #[.val (.int x0), .val (.int (2 : Int32)), .unset, .unset, .unset, .unset] [(.ref b2)]))
    refine Go.step (fun _ k => XS.astoreN X9.here hx rfl (hb hby at_12) rfl rfl (l' := #[.val (.int x0), .val (.int (2 : Int32)), .val (.ref b2), .unset, .unset, .unset]) rfl k) ?_
    show Go _ _ _ _ (T9.setTop (mkF m 13 #[.val (.int x0), .val (.int (2 : Int32)), .val (.ref b2), .unset, .unset, .unset] []))
    refine Go.step (fun _ k => XS.iloadN X9.here hx rfl (hb hby at_13) rfl k) ?_
    show Go _ _ _ _ (T9.setTop (mkF m 14 #[.val (.int x0), .val (.int (2 : Int32)), .val (.ref b2), .unset, .unset, .unset] [(.int (2 : Int32))]))
    refine Go.step (fun _ k => XS.iconst X9.here hx rfl (hb hby at_14) k) ?_
    show Go _ _ _ _ (T9.setTop (mkF m 15 #[.val (.int x0), .val (.int (2 : Int32)), .val (.ref b2), .unset, .unset, .unset] [(.int (2 : Int32)), (.int (2 : Int32))]))
    refine Go.step (fun _ k => XS.icmpNo X9.here hx rfl (hb hby at_15) rfl (flt (by decide : ¬ ((2 : Int32) < (2 : Int32)))).1 k) ?_
    show Go _ _ _ _ (T9.setTop (mkF m 18 #[.val (.int x0), .val (.int (2 : Int32)), .val (.ref b2), .unset, .unset, .unset] []))
    refine Go.step (fun _ k => XS.iconst X9.here hx rfl (hb hby at_18) k) ?_
    show Go _ _ _ _ (T9.setTop (mkF m 19 #[.val (.int x0), .val (.int (2 : Int32)), .val (.ref b2), .unset, .unset, .unset] [(.int (1 : Int32))]))
    refine Go.step (fun _ k => XS.goto X9.here hx rfl (pc0 := 19) (pc' := 23) rfl (hb hby at_19) (by decide) (by decide) k) ?_
    show Go _ _ _ _ (T9.setTop (mkF m 23 #[.val (.int x0), .val (.int (2 : Int32)), .val (.ref b2), .unset, .unset, .unset] [(.int (1 : Int32))]))
    refine Go.step (fun _ k => XS.istoreN X9.here hx rfl (hb hby at_23) rfl (l' := #[.val (.int x0), .val (.int (2 : Int32)), .val (.ref b2), .val (.int (1 : Int32)), .unset, .unset]) rfl k) ?_
    show Go _ _ _ _ (T9.setTop (mkF m 24 #[.val (.int x0), .val (.int (2 : Int32)), .val (.ref b2), .val (.int (1 : Int32)), .unset, .unset] []))
    refine Go.step (fun _ k => XS.aloadN X9.here hx rfl (hb hby at_24) rfl rfl k) ?_
    show Go _ _ _ _ (T9.setTop (mkF m 25 #[.val (.int x0), .val (.int (2 : Int32)), .val (.ref b2), .val (.int (1 : Int32)), .unset, .unset] [(.ref b2)]))
    refine goV X9 hx hZ hown (hw _ (List.mem_of_getElem? (i := 8) rfl)) (hw _ (List.mem_of_getElem? (i := 9) rfl)) (notFace_of_selects (args := #[]) (mvT hZ (hw _ (List.mem_of_getElem? (i := 11) rfl)))) (hw _ (List.mem_of_getElem? (i := 11) rfl)) (hw _ (List.mem_of_getElem? (i := 10) rfl)) (hw _ (List.mem_of_getElem? (i := 6) rfl)) (hw _ (List.mem_of_getElem? (i := 12) rfl)) (by decide) (ro2 l Z a0 hw [] h0 b0 b1 b2 b3 b4 b5 hO) e9 hO.2.2.1.2.1 (by rw [hml]; rfl) [] [] rfl pd2 rfl rfl 0 rfl (hb hby at_25) (by decide) (by decide) (by decide) (by decide) fun T10 L10 v10 q10 X10 => ?_
    obtain ⟨rfl, e10, rfl⟩ := q10
    rw [List.append_nil] at X10
    show Go _ _ _ _ (T10.setTop (mkF m 28 #[.val (.int x0), .val (.int (2 : Int32)), .val (.ref b2), .val (.int (1 : Int32)), .unset, .unset] [(.int (1 : Int32))]))
    refine Go.step (fun _ k => XS.istore X10.here hx rfl (hb hby at_28) rfl (l' := #[.val (.int x0), .val (.int (2 : Int32)), .val (.ref b2), .val (.int (1 : Int32)), .val (.int (1 : Int32)), .unset]) rfl k) ?_
    show Go _ _ _ _ (T10.setTop (mkF m 30 #[.val (.int x0), .val (.int (2 : Int32)), .val (.ref b2), .val (.int (1 : Int32)), .val (.int (1 : Int32)), .unset] []))
    refine Go.step (fun _ k => XS.iload X10.here hx rfl (hb hby at_30) rfl k) ?_
    show Go _ _ _ _ (T10.setTop (mkF m 32 #[.val (.int x0), .val (.int (2 : Int32)), .val (.ref b2), .val (.int (1 : Int32)), .val (.int (1 : Int32)), .unset] [(.int (1 : Int32))]))
    refine Go.step (fun _ k => XS.aloadN X10.here hx rfl (hb hby at_32) rfl rfl k) ?_
    show Go _ _ _ _ (T10.setTop (mkF m 33 #[.val (.int x0), .val (.int (2 : Int32)), .val (.ref b2), .val (.int (1 : Int32)), .val (.int (1 : Int32)), .unset] [(.ref b2), (.int (1 : Int32))]))
    refine Go.step (fun _ k => XS.iconst X10.here hx rfl (hb hby at_33) k) ?_
    show Go _ _ _ _ (T10.setTop (mkF m 34 #[.val (.int x0), .val (.int (2 : Int32)), .val (.ref b2), .val (.int (1 : Int32)), .val (.int (1 : Int32)), .unset] [(.int (-1 : Int32)), (.ref b2), (.int (1 : Int32))]))
    refine goV X10 hx hZ hown (hw _ (List.mem_of_getElem? (i := 14) rfl)) (hw _ (List.mem_of_getElem? (i := 15) rfl)) (notFace_of_selects (args := #[]) (mvT hZ (hw _ (List.mem_of_getElem? (i := 17) rfl)))) (hw _ (List.mem_of_getElem? (i := 17) rfl)) (hw _ (List.mem_of_getElem? (i := 16) rfl)) (hw _ (List.mem_of_getElem? (i := 6) rfl)) (hw _ (List.mem_of_getElem? (i := 18) rfl)) (by decide) (rh2_m l Z a0 hw [] h0 b0 b1 b2 b3 b4 b5 hO) e10 hO.2.2.1.2.1 (by rw [hml]; rfl) [(.int (-1 : Int32))] [(.int (1 : Int32))] rfl pd3 rfl rfl 1 rfl (hb hby at_34) (by decide) (by decide) (by decide) (by decide) fun T11 L11 v11 q11 X11 => ?_
    obtain ⟨rfl, e11, rfl⟩ := q11
    rw [List.append_nil] at X11
    show Go _ _ _ _ (T11.setTop (mkF m 37 #[.val (.int x0), .val (.int (2 : Int32)), .val (.ref b2), .val (.int (1 : Int32)), .val (.int (1 : Int32)), .unset] [(.int (1 : Int32)), (.int (1 : Int32))]))
    refine Go.step (fun _ k => XS.aloadN X11.here hx rfl (hb hby at_37) rfl rfl k) ?_
    show Go _ _ _ _ (T11.setTop (mkF m 38 #[.val (.int x0), .val (.int (2 : Int32)), .val (.ref b2), .val (.int (1 : Int32)), .val (.int (1 : Int32)), .unset] [(.ref b2), (.int (1 : Int32)), (.int (1 : Int32))]))
    refine Go.step (fun _ k => XS.iconst X11.here hx rfl (hb hby at_38) k) ?_
    show Go _ _ _ _ (T11.setTop (mkF m 39 #[.val (.int x0), .val (.int (2 : Int32)), .val (.ref b2), .val (.int (1 : Int32)), .val (.int (1 : Int32)), .unset] [(.int (1 : Int32)), (.ref b2), (.int (1 : Int32)), (.int (1 : Int32))]))
    refine goV X11 hx hZ hown (hw _ (List.mem_of_getElem? (i := 14) rfl)) (hw _ (List.mem_of_getElem? (i := 15) rfl)) (notFace_of_selects (args := #[]) (mvT hZ (hw _ (List.mem_of_getElem? (i := 17) rfl)))) (hw _ (List.mem_of_getElem? (i := 17) rfl)) (hw _ (List.mem_of_getElem? (i := 16) rfl)) (hw _ (List.mem_of_getElem? (i := 6) rfl)) (hw _ (List.mem_of_getElem? (i := 18) rfl)) (by decide) (rh2_p l Z a0 hw [] h0 b0 b1 b2 b3 b4 b5 hO) e11 hO.2.2.1.2.1 (by rw [hml]; rfl) [(.int (1 : Int32))] [(.int (1 : Int32)), (.int (1 : Int32))] rfl pd3 rfl rfl 2 rfl (hb hby at_39) (by decide) (by decide) (by decide) (by decide) fun T12 L12 v12 q12 X12 => ?_
    obtain ⟨rfl, e12, rfl⟩ := q12
    rw [List.append_nil] at X12
    show Go _ _ _ _ (T12.setTop (mkF m 42 #[.val (.int x0), .val (.int (2 : Int32)), .val (.ref b2), .val (.int (1 : Int32)), .val (.int (1 : Int32)), .unset] [(.int (0 : Int32)), (.int (1 : Int32)), (.int (1 : Int32))]))
    refine Go.step (fun _ k => XS.icmpNo X12.here hx rfl (hb hby at_42) rfl (feq (by decide : ¬ ((1 : Int32) = (0 : Int32)))).1 k) ?_
    show Go _ _ _ _ (T12.setTop (mkF m 45 #[.val (.int x0), .val (.int (2 : Int32)), .val (.ref b2), .val (.int (1 : Int32)), .val (.int (1 : Int32)), .unset] [(.int (1 : Int32))]))
    refine Go.step (fun _ k => XS.iconst X12.here hx rfl (hb hby at_45) k) ?_
    show Go _ _ _ _ (T12.setTop (mkF m 46 #[.val (.int x0), .val (.int (2 : Int32)), .val (.ref b2), .val (.int (1 : Int32)), .val (.int (1 : Int32)), .unset] [(.int (1 : Int32)), (.int (1 : Int32))]))
    refine Go.step (fun _ k => XS.goto X12.here hx rfl (pc0 := 46) (pc' := 50) rfl (hb hby at_46) (by decide) (by decide) k) ?_
    show Go _ _ _ _ (T12.setTop (mkF m 50 #[.val (.int x0), .val (.int (2 : Int32)), .val (.ref b2), .val (.int (1 : Int32)), .val (.int (1 : Int32)), .unset] [(.int (1 : Int32)), (.int (1 : Int32))]))
    refine Go.step (fun _ k => XS.icmpNo X12.here hx rfl (hb hby at_50) rfl (teq (by decide : ((1 : Int32) = (1 : Int32)))).2 k) ?_
    show Go _ _ _ _ (T12.setTop (mkF m 53 #[.val (.int x0), .val (.int (2 : Int32)), .val (.ref b2), .val (.int (1 : Int32)), .val (.int (1 : Int32)), .unset] []))
    refine Go.step (fun _ k => XS.iconst X12.here hx rfl (hb hby at_53) k) ?_
    show Go _ _ _ _ (T12.setTop (mkF m 54 #[.val (.int x0), .val (.int (2 : Int32)), .val (.ref b2), .val (.int (1 : Int32)), .val (.int (1 : Int32)), .unset] [(.int (1 : Int32))]))
    refine Go.step (fun _ k => XS.goto X12.here hx rfl (pc0 := 54) (pc' := 58) rfl (hb hby at_54) (by decide) (by decide) k) ?_
    show Go _ _ _ _ (T12.setTop (mkF m 58 #[.val (.int x0), .val (.int (2 : Int32)), .val (.ref b2), .val (.int (1 : Int32)), .val (.int (1 : Int32)), .unset] [(.int (1 : Int32))]))
    refine Go.step (fun _ k => XS.istore X12.here hx rfl (hb hby at_58) rfl (l' := #[.val (.int x0), .val (.int (2 : Int32)), .val (.ref b2), .val (.int (1 : Int32)), .val (.int (1 : Int32)), .val (.int (1 : Int32))]) rfl k) ?_
    show Go _ _ _ _ (T12.setTop (mkF m 60 #[.val (.int x0), .val (.int (2 : Int32)), .val (.ref b2), .val (.int (1 : Int32)), .val (.int (1 : Int32)), .val (.int (1 : Int32))] []))
    refine Go.step (fun _ k => XS.iload X12.here hx rfl (hb hby at_60) rfl k) ?_
    show Go _ _ _ _ (T12.setTop (mkF m 62 #[.val (.int x0), .val (.int (2 : Int32)), .val (.ref b2), .val (.int (1 : Int32)), .val (.int (1 : Int32)), .val (.int (1 : Int32))] [(.int (1 : Int32))]))
    refine Go.step (fun _ k => XS.iloadN X12.here hx rfl (hb hby at_62) rfl k) ?_
    show Go _ _ _ _ (T12.setTop (mkF m 63 #[.val (.int x0), .val (.int (2 : Int32)), .val (.ref b2), .val (.int (1 : Int32)), .val (.int (1 : Int32)), .val (.int (1 : Int32))] [(.int (1 : Int32)), (.int (1 : Int32))]))
    refine Go.step (fun _ k => XS.icmpNo X12.here hx rfl (hb hby at_63) rfl (teq (by decide : ((1 : Int32) = (1 : Int32)))).2 k) ?_
    show Go _ _ _ _ (T12.setTop (mkF m 66 #[.val (.int x0), .val (.int (2 : Int32)), .val (.ref b2), .val (.int (1 : Int32)), .val (.int (1 : Int32)), .val (.int (1 : Int32))] []))
    refine Go.step (fun _ k => XS.iload X12.here hx rfl (hb hby at_66) rfl k) ?_
    show Go _ _ _ _ (T12.setTop (mkF m 68 #[.val (.int x0), .val (.int (2 : Int32)), .val (.ref b2), .val (.int (1 : Int32)), .val (.int (1 : Int32)), .val (.int (1 : Int32))] [(.int (1 : Int32))]))
    refine Go.step (fun _ k => XS.ifNo X12.here hx rfl (hb hby at_68) rfl ((if0 _ _).trans (feq (by decide : ¬ ((1 : Int32) = (0 : Int32)))).1) k) ?_
    show Go _ _ _ _ (T12.setTop (mkF m 71 #[.val (.int x0), .val (.int (2 : Int32)), .val (.ref b2), .val (.int (1 : Int32)), .val (.int (1 : Int32)), .val (.int (1 : Int32))] []))
    refine Go.step (fun _ k => XS.iconst X12.here hx rfl (hb hby at_71) k) ?_
    show Go _ _ _ _ (T12.setTop (mkF m 72 #[.val (.int x0), .val (.int (2 : Int32)), .val (.ref b2), .val (.int (1 : Int32)), .val (.int (1 : Int32)), .val (.int (1 : Int32))] [(.int (1 : Int32))]))
    refine Go.step (fun _ k => XS.goto X12.here hx rfl (pc0 := 72) (pc' := 76) rfl (hb hby at_72) (by decide) (by decide) k) ?_
    show Go _ _ _ _ (T12.setTop (mkF m 76 #[.val (.int x0), .val (.int (2 : Int32)), .val (.ref b2), .val (.int (1 : Int32)), .val (.int (1 : Int32)), .val (.int (1 : Int32))] [(.int (1 : Int32))]))
    exact leafN X12 hx (t := .boolean) hret (by simp) hlk (w := (1 : Int32)) rfl (hb hby at_76) ⟨rfl, Fr.nil _⟩ (by decide) (by decide)
  · rw [hk]
    show Go _ _ _ _ (s₁.setTop (mkF m 8 #[.val (.int x0), .val (.int (3 : Int32)), .unset, .unset, .unset, .unset] []))
    refine Go.step (fun _ k => XS.iloadN X0.here hx rfl (hb hby at_8) rfl k) ?_
    show Go _ _ _ _ (s₁.setTop (mkF m 9 #[.val (.int x0), .val (.int (3 : Int32)), .unset, .unset, .unset, .unset] [(.int (3 : Int32))]))
    refine goS X0 hx hZ hown (hw _ (List.mem_of_getElem? (i := 1) rfl)) (hw _ (List.mem_of_getElem? (i := 2) rfl)) (hw _ (List.mem_of_getElem? (i := 3) rfl)) (hw _ (List.mem_of_getElem? (i := 4) rfl)) (by decide) (rp3 l Z a0 hw [] h0 b0 b1 b2 b3 b4 b5 hO) e0 (by rw [hml]; rfl) [(.int (3 : Int32))] [] rfl pd1 rfl rfl 0 rfl (hb hby at_9) (by decide) (by decide) (by decide) (by decide) fun T13 L13 v13 q13 X13 => ?_
    obtain ⟨rfl, e13, rfl⟩ := q13
    rw [List.append_nil] at X13
    show Go _ _ _ _ (T13.setTop (mkF m 12 #[.val (.int x0), .val (.int (3 : Int32)), .unset, .unset, .unset, .unset] [(.ref b3)]))
    refine Go.step (fun _ k => XS.astoreN X13.here hx rfl (hb hby at_12) rfl rfl (l' := #[.val (.int x0), .val (.int (3 : Int32)), .val (.ref b3), .unset, .unset, .unset]) rfl k) ?_
    show Go _ _ _ _ (T13.setTop (mkF m 13 #[.val (.int x0), .val (.int (3 : Int32)), .val (.ref b3), .unset, .unset, .unset] []))
    refine Go.step (fun _ k => XS.iloadN X13.here hx rfl (hb hby at_13) rfl k) ?_
    show Go _ _ _ _ (T13.setTop (mkF m 14 #[.val (.int x0), .val (.int (3 : Int32)), .val (.ref b3), .unset, .unset, .unset] [(.int (3 : Int32))]))
    refine Go.step (fun _ k => XS.iconst X13.here hx rfl (hb hby at_14) k) ?_
    show Go _ _ _ _ (T13.setTop (mkF m 15 #[.val (.int x0), .val (.int (3 : Int32)), .val (.ref b3), .unset, .unset, .unset] [(.int (2 : Int32)), (.int (3 : Int32))]))
    refine Go.step (fun _ k => XS.icmpNo X13.here hx rfl (hb hby at_15) rfl (flt (by decide : ¬ ((3 : Int32) < (2 : Int32)))).1 k) ?_
    show Go _ _ _ _ (T13.setTop (mkF m 18 #[.val (.int x0), .val (.int (3 : Int32)), .val (.ref b3), .unset, .unset, .unset] []))
    refine Go.step (fun _ k => XS.iconst X13.here hx rfl (hb hby at_18) k) ?_
    show Go _ _ _ _ (T13.setTop (mkF m 19 #[.val (.int x0), .val (.int (3 : Int32)), .val (.ref b3), .unset, .unset, .unset] [(.int (1 : Int32))]))
    refine Go.step (fun _ k => XS.goto X13.here hx rfl (pc0 := 19) (pc' := 23) rfl (hb hby at_19) (by decide) (by decide) k) ?_
    show Go _ _ _ _ (T13.setTop (mkF m 23 #[.val (.int x0), .val (.int (3 : Int32)), .val (.ref b3), .unset, .unset, .unset] [(.int (1 : Int32))]))
    refine Go.step (fun _ k => XS.istoreN X13.here hx rfl (hb hby at_23) rfl (l' := #[.val (.int x0), .val (.int (3 : Int32)), .val (.ref b3), .val (.int (1 : Int32)), .unset, .unset]) rfl k) ?_
    show Go _ _ _ _ (T13.setTop (mkF m 24 #[.val (.int x0), .val (.int (3 : Int32)), .val (.ref b3), .val (.int (1 : Int32)), .unset, .unset] []))
    refine Go.step (fun _ k => XS.aloadN X13.here hx rfl (hb hby at_24) rfl rfl k) ?_
    show Go _ _ _ _ (T13.setTop (mkF m 25 #[.val (.int x0), .val (.int (3 : Int32)), .val (.ref b3), .val (.int (1 : Int32)), .unset, .unset] [(.ref b3)]))
    refine goV X13 hx hZ hown (hw _ (List.mem_of_getElem? (i := 8) rfl)) (hw _ (List.mem_of_getElem? (i := 9) rfl)) (notFace_of_selects (args := #[]) (mvT hZ (hw _ (List.mem_of_getElem? (i := 11) rfl)))) (hw _ (List.mem_of_getElem? (i := 11) rfl)) (hw _ (List.mem_of_getElem? (i := 10) rfl)) (hw _ (List.mem_of_getElem? (i := 6) rfl)) (hw _ (List.mem_of_getElem? (i := 12) rfl)) (by decide) (ro3 l Z a0 hw [] h0 b0 b1 b2 b3 b4 b5 hO) e13 hO.2.2.2.1.2.1 (by rw [hml]; rfl) [] [] rfl pd2 rfl rfl 0 rfl (hb hby at_25) (by decide) (by decide) (by decide) (by decide) fun T14 L14 v14 q14 X14 => ?_
    obtain ⟨rfl, e14, rfl⟩ := q14
    rw [List.append_nil] at X14
    show Go _ _ _ _ (T14.setTop (mkF m 28 #[.val (.int x0), .val (.int (3 : Int32)), .val (.ref b3), .val (.int (1 : Int32)), .unset, .unset] [(.int (1 : Int32))]))
    refine Go.step (fun _ k => XS.istore X14.here hx rfl (hb hby at_28) rfl (l' := #[.val (.int x0), .val (.int (3 : Int32)), .val (.ref b3), .val (.int (1 : Int32)), .val (.int (1 : Int32)), .unset]) rfl k) ?_
    show Go _ _ _ _ (T14.setTop (mkF m 30 #[.val (.int x0), .val (.int (3 : Int32)), .val (.ref b3), .val (.int (1 : Int32)), .val (.int (1 : Int32)), .unset] []))
    refine Go.step (fun _ k => XS.iload X14.here hx rfl (hb hby at_30) rfl k) ?_
    show Go _ _ _ _ (T14.setTop (mkF m 32 #[.val (.int x0), .val (.int (3 : Int32)), .val (.ref b3), .val (.int (1 : Int32)), .val (.int (1 : Int32)), .unset] [(.int (1 : Int32))]))
    refine Go.step (fun _ k => XS.aloadN X14.here hx rfl (hb hby at_32) rfl rfl k) ?_
    show Go _ _ _ _ (T14.setTop (mkF m 33 #[.val (.int x0), .val (.int (3 : Int32)), .val (.ref b3), .val (.int (1 : Int32)), .val (.int (1 : Int32)), .unset] [(.ref b3), (.int (1 : Int32))]))
    refine Go.step (fun _ k => XS.iconst X14.here hx rfl (hb hby at_33) k) ?_
    show Go _ _ _ _ (T14.setTop (mkF m 34 #[.val (.int x0), .val (.int (3 : Int32)), .val (.ref b3), .val (.int (1 : Int32)), .val (.int (1 : Int32)), .unset] [(.int (-1 : Int32)), (.ref b3), (.int (1 : Int32))]))
    refine goV X14 hx hZ hown (hw _ (List.mem_of_getElem? (i := 14) rfl)) (hw _ (List.mem_of_getElem? (i := 15) rfl)) (notFace_of_selects (args := #[]) (mvT hZ (hw _ (List.mem_of_getElem? (i := 17) rfl)))) (hw _ (List.mem_of_getElem? (i := 17) rfl)) (hw _ (List.mem_of_getElem? (i := 16) rfl)) (hw _ (List.mem_of_getElem? (i := 6) rfl)) (hw _ (List.mem_of_getElem? (i := 18) rfl)) (by decide) (rh3_m l Z a0 hw [] h0 b0 b1 b2 b3 b4 b5 hO) e14 hO.2.2.2.1.2.1 (by rw [hml]; rfl) [(.int (-1 : Int32))] [(.int (1 : Int32))] rfl pd3 rfl rfl 1 rfl (hb hby at_34) (by decide) (by decide) (by decide) (by decide) fun T15 L15 v15 q15 X15 => ?_
    obtain ⟨rfl, e15, rfl⟩ := q15
    rw [List.append_nil] at X15
    show Go _ _ _ _ (T15.setTop (mkF m 37 #[.val (.int x0), .val (.int (3 : Int32)), .val (.ref b3), .val (.int (1 : Int32)), .val (.int (1 : Int32)), .unset] [(.int (1 : Int32)), (.int (1 : Int32))]))
    refine Go.step (fun _ k => XS.aloadN X15.here hx rfl (hb hby at_37) rfl rfl k) ?_
    show Go _ _ _ _ (T15.setTop (mkF m 38 #[.val (.int x0), .val (.int (3 : Int32)), .val (.ref b3), .val (.int (1 : Int32)), .val (.int (1 : Int32)), .unset] [(.ref b3), (.int (1 : Int32)), (.int (1 : Int32))]))
    refine Go.step (fun _ k => XS.iconst X15.here hx rfl (hb hby at_38) k) ?_
    show Go _ _ _ _ (T15.setTop (mkF m 39 #[.val (.int x0), .val (.int (3 : Int32)), .val (.ref b3), .val (.int (1 : Int32)), .val (.int (1 : Int32)), .unset] [(.int (1 : Int32)), (.ref b3), (.int (1 : Int32)), (.int (1 : Int32))]))
    refine goV X15 hx hZ hown (hw _ (List.mem_of_getElem? (i := 14) rfl)) (hw _ (List.mem_of_getElem? (i := 15) rfl)) (notFace_of_selects (args := #[]) (mvT hZ (hw _ (List.mem_of_getElem? (i := 17) rfl)))) (hw _ (List.mem_of_getElem? (i := 17) rfl)) (hw _ (List.mem_of_getElem? (i := 16) rfl)) (hw _ (List.mem_of_getElem? (i := 6) rfl)) (hw _ (List.mem_of_getElem? (i := 18) rfl)) (by decide) (rh3_p l Z a0 hw [] h0 b0 b1 b2 b3 b4 b5 hO) e15 hO.2.2.2.1.2.1 (by rw [hml]; rfl) [(.int (1 : Int32))] [(.int (1 : Int32)), (.int (1 : Int32))] rfl pd3 rfl rfl 2 rfl (hb hby at_39) (by decide) (by decide) (by decide) (by decide) fun T16 L16 v16 q16 X16 => ?_
    obtain ⟨rfl, e16, rfl⟩ := q16
    rw [List.append_nil] at X16
    show Go _ _ _ _ (T16.setTop (mkF m 42 #[.val (.int x0), .val (.int (3 : Int32)), .val (.ref b3), .val (.int (1 : Int32)), .val (.int (1 : Int32)), .unset] [(.int (0 : Int32)), (.int (1 : Int32)), (.int (1 : Int32))]))
    refine Go.step (fun _ k => XS.icmpNo X16.here hx rfl (hb hby at_42) rfl (feq (by decide : ¬ ((1 : Int32) = (0 : Int32)))).1 k) ?_
    show Go _ _ _ _ (T16.setTop (mkF m 45 #[.val (.int x0), .val (.int (3 : Int32)), .val (.ref b3), .val (.int (1 : Int32)), .val (.int (1 : Int32)), .unset] [(.int (1 : Int32))]))
    refine Go.step (fun _ k => XS.iconst X16.here hx rfl (hb hby at_45) k) ?_
    show Go _ _ _ _ (T16.setTop (mkF m 46 #[.val (.int x0), .val (.int (3 : Int32)), .val (.ref b3), .val (.int (1 : Int32)), .val (.int (1 : Int32)), .unset] [(.int (1 : Int32)), (.int (1 : Int32))]))
    refine Go.step (fun _ k => XS.goto X16.here hx rfl (pc0 := 46) (pc' := 50) rfl (hb hby at_46) (by decide) (by decide) k) ?_
    show Go _ _ _ _ (T16.setTop (mkF m 50 #[.val (.int x0), .val (.int (3 : Int32)), .val (.ref b3), .val (.int (1 : Int32)), .val (.int (1 : Int32)), .unset] [(.int (1 : Int32)), (.int (1 : Int32))]))
    refine Go.step (fun _ k => XS.icmpNo X16.here hx rfl (hb hby at_50) rfl (teq (by decide : ((1 : Int32) = (1 : Int32)))).2 k) ?_
    show Go _ _ _ _ (T16.setTop (mkF m 53 #[.val (.int x0), .val (.int (3 : Int32)), .val (.ref b3), .val (.int (1 : Int32)), .val (.int (1 : Int32)), .unset] []))
    refine Go.step (fun _ k => XS.iconst X16.here hx rfl (hb hby at_53) k) ?_
    show Go _ _ _ _ (T16.setTop (mkF m 54 #[.val (.int x0), .val (.int (3 : Int32)), .val (.ref b3), .val (.int (1 : Int32)), .val (.int (1 : Int32)), .unset] [(.int (1 : Int32))]))
    refine Go.step (fun _ k => XS.goto X16.here hx rfl (pc0 := 54) (pc' := 58) rfl (hb hby at_54) (by decide) (by decide) k) ?_
    show Go _ _ _ _ (T16.setTop (mkF m 58 #[.val (.int x0), .val (.int (3 : Int32)), .val (.ref b3), .val (.int (1 : Int32)), .val (.int (1 : Int32)), .unset] [(.int (1 : Int32))]))
    refine Go.step (fun _ k => XS.istore X16.here hx rfl (hb hby at_58) rfl (l' := #[.val (.int x0), .val (.int (3 : Int32)), .val (.ref b3), .val (.int (1 : Int32)), .val (.int (1 : Int32)), .val (.int (1 : Int32))]) rfl k) ?_
    show Go _ _ _ _ (T16.setTop (mkF m 60 #[.val (.int x0), .val (.int (3 : Int32)), .val (.ref b3), .val (.int (1 : Int32)), .val (.int (1 : Int32)), .val (.int (1 : Int32))] []))
    refine Go.step (fun _ k => XS.iload X16.here hx rfl (hb hby at_60) rfl k) ?_
    show Go _ _ _ _ (T16.setTop (mkF m 62 #[.val (.int x0), .val (.int (3 : Int32)), .val (.ref b3), .val (.int (1 : Int32)), .val (.int (1 : Int32)), .val (.int (1 : Int32))] [(.int (1 : Int32))]))
    refine Go.step (fun _ k => XS.iloadN X16.here hx rfl (hb hby at_62) rfl k) ?_
    show Go _ _ _ _ (T16.setTop (mkF m 63 #[.val (.int x0), .val (.int (3 : Int32)), .val (.ref b3), .val (.int (1 : Int32)), .val (.int (1 : Int32)), .val (.int (1 : Int32))] [(.int (1 : Int32)), (.int (1 : Int32))]))
    refine Go.step (fun _ k => XS.icmpNo X16.here hx rfl (hb hby at_63) rfl (teq (by decide : ((1 : Int32) = (1 : Int32)))).2 k) ?_
    show Go _ _ _ _ (T16.setTop (mkF m 66 #[.val (.int x0), .val (.int (3 : Int32)), .val (.ref b3), .val (.int (1 : Int32)), .val (.int (1 : Int32)), .val (.int (1 : Int32))] []))
    refine Go.step (fun _ k => XS.iload X16.here hx rfl (hb hby at_66) rfl k) ?_
    show Go _ _ _ _ (T16.setTop (mkF m 68 #[.val (.int x0), .val (.int (3 : Int32)), .val (.ref b3), .val (.int (1 : Int32)), .val (.int (1 : Int32)), .val (.int (1 : Int32))] [(.int (1 : Int32))]))
    refine Go.step (fun _ k => XS.ifNo X16.here hx rfl (hb hby at_68) rfl ((if0 _ _).trans (feq (by decide : ¬ ((1 : Int32) = (0 : Int32)))).1) k) ?_
    show Go _ _ _ _ (T16.setTop (mkF m 71 #[.val (.int x0), .val (.int (3 : Int32)), .val (.ref b3), .val (.int (1 : Int32)), .val (.int (1 : Int32)), .val (.int (1 : Int32))] []))
    refine Go.step (fun _ k => XS.iconst X16.here hx rfl (hb hby at_71) k) ?_
    show Go _ _ _ _ (T16.setTop (mkF m 72 #[.val (.int x0), .val (.int (3 : Int32)), .val (.ref b3), .val (.int (1 : Int32)), .val (.int (1 : Int32)), .val (.int (1 : Int32))] [(.int (1 : Int32))]))
    refine Go.step (fun _ k => XS.goto X16.here hx rfl (pc0 := 72) (pc' := 76) rfl (hb hby at_72) (by decide) (by decide) k) ?_
    show Go _ _ _ _ (T16.setTop (mkF m 76 #[.val (.int x0), .val (.int (3 : Int32)), .val (.ref b3), .val (.int (1 : Int32)), .val (.int (1 : Int32)), .val (.int (1 : Int32))] [(.int (1 : Int32))]))
    exact leafN X16 hx (t := .boolean) hret (by simp) hlk (w := (1 : Int32)) rfl (hb hby at_76) ⟨rfl, Fr.nil _⟩ (by decide) (by decide)
  · rw [hk]
    show Go _ _ _ _ (s₁.setTop (mkF m 8 #[.val (.int x0), .val (.int (4 : Int32)), .unset, .unset, .unset, .unset] []))
    refine Go.step (fun _ k => XS.iloadN X0.here hx rfl (hb hby at_8) rfl k) ?_
    show Go _ _ _ _ (s₁.setTop (mkF m 9 #[.val (.int x0), .val (.int (4 : Int32)), .unset, .unset, .unset, .unset] [(.int (4 : Int32))]))
    refine goS X0 hx hZ hown (hw _ (List.mem_of_getElem? (i := 1) rfl)) (hw _ (List.mem_of_getElem? (i := 2) rfl)) (hw _ (List.mem_of_getElem? (i := 3) rfl)) (hw _ (List.mem_of_getElem? (i := 4) rfl)) (by decide) (rp4 l Z a0 hw [] h0 b0 b1 b2 b3 b4 b5 hO) e0 (by rw [hml]; rfl) [(.int (4 : Int32))] [] rfl pd1 rfl rfl 0 rfl (hb hby at_9) (by decide) (by decide) (by decide) (by decide) fun T17 L17 v17 q17 X17 => ?_
    obtain ⟨rfl, e17, rfl⟩ := q17
    rw [List.append_nil] at X17
    show Go _ _ _ _ (T17.setTop (mkF m 12 #[.val (.int x0), .val (.int (4 : Int32)), .unset, .unset, .unset, .unset] [(.ref b4)]))
    refine Go.step (fun _ k => XS.astoreN X17.here hx rfl (hb hby at_12) rfl rfl (l' := #[.val (.int x0), .val (.int (4 : Int32)), .val (.ref b4), .unset, .unset, .unset]) rfl k) ?_
    show Go _ _ _ _ (T17.setTop (mkF m 13 #[.val (.int x0), .val (.int (4 : Int32)), .val (.ref b4), .unset, .unset, .unset] []))
    refine Go.step (fun _ k => XS.iloadN X17.here hx rfl (hb hby at_13) rfl k) ?_
    show Go _ _ _ _ (T17.setTop (mkF m 14 #[.val (.int x0), .val (.int (4 : Int32)), .val (.ref b4), .unset, .unset, .unset] [(.int (4 : Int32))]))
    refine Go.step (fun _ k => XS.iconst X17.here hx rfl (hb hby at_14) k) ?_
    show Go _ _ _ _ (T17.setTop (mkF m 15 #[.val (.int x0), .val (.int (4 : Int32)), .val (.ref b4), .unset, .unset, .unset] [(.int (2 : Int32)), (.int (4 : Int32))]))
    refine Go.step (fun _ k => XS.icmpNo X17.here hx rfl (hb hby at_15) rfl (flt (by decide : ¬ ((4 : Int32) < (2 : Int32)))).1 k) ?_
    show Go _ _ _ _ (T17.setTop (mkF m 18 #[.val (.int x0), .val (.int (4 : Int32)), .val (.ref b4), .unset, .unset, .unset] []))
    refine Go.step (fun _ k => XS.iconst X17.here hx rfl (hb hby at_18) k) ?_
    show Go _ _ _ _ (T17.setTop (mkF m 19 #[.val (.int x0), .val (.int (4 : Int32)), .val (.ref b4), .unset, .unset, .unset] [(.int (1 : Int32))]))
    refine Go.step (fun _ k => XS.goto X17.here hx rfl (pc0 := 19) (pc' := 23) rfl (hb hby at_19) (by decide) (by decide) k) ?_
    show Go _ _ _ _ (T17.setTop (mkF m 23 #[.val (.int x0), .val (.int (4 : Int32)), .val (.ref b4), .unset, .unset, .unset] [(.int (1 : Int32))]))
    refine Go.step (fun _ k => XS.istoreN X17.here hx rfl (hb hby at_23) rfl (l' := #[.val (.int x0), .val (.int (4 : Int32)), .val (.ref b4), .val (.int (1 : Int32)), .unset, .unset]) rfl k) ?_
    show Go _ _ _ _ (T17.setTop (mkF m 24 #[.val (.int x0), .val (.int (4 : Int32)), .val (.ref b4), .val (.int (1 : Int32)), .unset, .unset] []))
    refine Go.step (fun _ k => XS.aloadN X17.here hx rfl (hb hby at_24) rfl rfl k) ?_
    show Go _ _ _ _ (T17.setTop (mkF m 25 #[.val (.int x0), .val (.int (4 : Int32)), .val (.ref b4), .val (.int (1 : Int32)), .unset, .unset] [(.ref b4)]))
    refine goV X17 hx hZ hown (hw _ (List.mem_of_getElem? (i := 8) rfl)) (hw _ (List.mem_of_getElem? (i := 9) rfl)) (notFace_of_selects (args := #[]) (mvT hZ (hw _ (List.mem_of_getElem? (i := 11) rfl)))) (hw _ (List.mem_of_getElem? (i := 11) rfl)) (hw _ (List.mem_of_getElem? (i := 10) rfl)) (hw _ (List.mem_of_getElem? (i := 6) rfl)) (hw _ (List.mem_of_getElem? (i := 12) rfl)) (by decide) (ro4 l Z a0 hw [] h0 b0 b1 b2 b3 b4 b5 hO) e17 hO.2.2.2.2.1.2.1 (by rw [hml]; rfl) [] [] rfl pd2 rfl rfl 0 rfl (hb hby at_25) (by decide) (by decide) (by decide) (by decide) fun T18 L18 v18 q18 X18 => ?_
    obtain ⟨rfl, e18, rfl⟩ := q18
    rw [List.append_nil] at X18
    show Go _ _ _ _ (T18.setTop (mkF m 28 #[.val (.int x0), .val (.int (4 : Int32)), .val (.ref b4), .val (.int (1 : Int32)), .unset, .unset] [(.int (1 : Int32))]))
    refine Go.step (fun _ k => XS.istore X18.here hx rfl (hb hby at_28) rfl (l' := #[.val (.int x0), .val (.int (4 : Int32)), .val (.ref b4), .val (.int (1 : Int32)), .val (.int (1 : Int32)), .unset]) rfl k) ?_
    show Go _ _ _ _ (T18.setTop (mkF m 30 #[.val (.int x0), .val (.int (4 : Int32)), .val (.ref b4), .val (.int (1 : Int32)), .val (.int (1 : Int32)), .unset] []))
    refine Go.step (fun _ k => XS.iload X18.here hx rfl (hb hby at_30) rfl k) ?_
    show Go _ _ _ _ (T18.setTop (mkF m 32 #[.val (.int x0), .val (.int (4 : Int32)), .val (.ref b4), .val (.int (1 : Int32)), .val (.int (1 : Int32)), .unset] [(.int (1 : Int32))]))
    refine Go.step (fun _ k => XS.aloadN X18.here hx rfl (hb hby at_32) rfl rfl k) ?_
    show Go _ _ _ _ (T18.setTop (mkF m 33 #[.val (.int x0), .val (.int (4 : Int32)), .val (.ref b4), .val (.int (1 : Int32)), .val (.int (1 : Int32)), .unset] [(.ref b4), (.int (1 : Int32))]))
    refine Go.step (fun _ k => XS.iconst X18.here hx rfl (hb hby at_33) k) ?_
    show Go _ _ _ _ (T18.setTop (mkF m 34 #[.val (.int x0), .val (.int (4 : Int32)), .val (.ref b4), .val (.int (1 : Int32)), .val (.int (1 : Int32)), .unset] [(.int (-1 : Int32)), (.ref b4), (.int (1 : Int32))]))
    refine goV X18 hx hZ hown (hw _ (List.mem_of_getElem? (i := 14) rfl)) (hw _ (List.mem_of_getElem? (i := 15) rfl)) (notFace_of_selects (args := #[]) (mvT hZ (hw _ (List.mem_of_getElem? (i := 17) rfl)))) (hw _ (List.mem_of_getElem? (i := 17) rfl)) (hw _ (List.mem_of_getElem? (i := 16) rfl)) (hw _ (List.mem_of_getElem? (i := 6) rfl)) (hw _ (List.mem_of_getElem? (i := 18) rfl)) (by decide) (rh4_m l Z a0 hw [] h0 b0 b1 b2 b3 b4 b5 hO) e18 hO.2.2.2.2.1.2.1 (by rw [hml]; rfl) [(.int (-1 : Int32))] [(.int (1 : Int32))] rfl pd3 rfl rfl 1 rfl (hb hby at_34) (by decide) (by decide) (by decide) (by decide) fun T19 L19 v19 q19 X19 => ?_
    obtain ⟨rfl, e19, rfl⟩ := q19
    rw [List.append_nil] at X19
    show Go _ _ _ _ (T19.setTop (mkF m 37 #[.val (.int x0), .val (.int (4 : Int32)), .val (.ref b4), .val (.int (1 : Int32)), .val (.int (1 : Int32)), .unset] [(.int (0 : Int32)), (.int (1 : Int32))]))
    refine Go.step (fun _ k => XS.aloadN X19.here hx rfl (hb hby at_37) rfl rfl k) ?_
    show Go _ _ _ _ (T19.setTop (mkF m 38 #[.val (.int x0), .val (.int (4 : Int32)), .val (.ref b4), .val (.int (1 : Int32)), .val (.int (1 : Int32)), .unset] [(.ref b4), (.int (0 : Int32)), (.int (1 : Int32))]))
    refine Go.step (fun _ k => XS.iconst X19.here hx rfl (hb hby at_38) k) ?_
    show Go _ _ _ _ (T19.setTop (mkF m 39 #[.val (.int x0), .val (.int (4 : Int32)), .val (.ref b4), .val (.int (1 : Int32)), .val (.int (1 : Int32)), .unset] [(.int (1 : Int32)), (.ref b4), (.int (0 : Int32)), (.int (1 : Int32))]))
    refine goV X19 hx hZ hown (hw _ (List.mem_of_getElem? (i := 14) rfl)) (hw _ (List.mem_of_getElem? (i := 15) rfl)) (notFace_of_selects (args := #[]) (mvT hZ (hw _ (List.mem_of_getElem? (i := 17) rfl)))) (hw _ (List.mem_of_getElem? (i := 17) rfl)) (hw _ (List.mem_of_getElem? (i := 16) rfl)) (hw _ (List.mem_of_getElem? (i := 6) rfl)) (hw _ (List.mem_of_getElem? (i := 18) rfl)) (by decide) (rh4_p l Z a0 hw [] h0 b0 b1 b2 b3 b4 b5 hO) e19 hO.2.2.2.2.1.2.1 (by rw [hml]; rfl) [(.int (1 : Int32))] [(.int (0 : Int32)), (.int (1 : Int32))] rfl pd3 rfl rfl 2 rfl (hb hby at_39) (by decide) (by decide) (by decide) (by decide) fun T20 L20 v20 q20 X20 => ?_
    obtain ⟨rfl, e20, rfl⟩ := q20
    rw [List.append_nil] at X20
    show Go _ _ _ _ (T20.setTop (mkF m 42 #[.val (.int x0), .val (.int (4 : Int32)), .val (.ref b4), .val (.int (1 : Int32)), .val (.int (1 : Int32)), .unset] [(.int (1 : Int32)), (.int (0 : Int32)), (.int (1 : Int32))]))
    refine Go.step (fun _ k => XS.icmpNo X20.here hx rfl (hb hby at_42) rfl (feq (by decide : ¬ ((0 : Int32) = (1 : Int32)))).1 k) ?_
    show Go _ _ _ _ (T20.setTop (mkF m 45 #[.val (.int x0), .val (.int (4 : Int32)), .val (.ref b4), .val (.int (1 : Int32)), .val (.int (1 : Int32)), .unset] [(.int (1 : Int32))]))
    refine Go.step (fun _ k => XS.iconst X20.here hx rfl (hb hby at_45) k) ?_
    show Go _ _ _ _ (T20.setTop (mkF m 46 #[.val (.int x0), .val (.int (4 : Int32)), .val (.ref b4), .val (.int (1 : Int32)), .val (.int (1 : Int32)), .unset] [(.int (1 : Int32)), (.int (1 : Int32))]))
    refine Go.step (fun _ k => XS.goto X20.here hx rfl (pc0 := 46) (pc' := 50) rfl (hb hby at_46) (by decide) (by decide) k) ?_
    show Go _ _ _ _ (T20.setTop (mkF m 50 #[.val (.int x0), .val (.int (4 : Int32)), .val (.ref b4), .val (.int (1 : Int32)), .val (.int (1 : Int32)), .unset] [(.int (1 : Int32)), (.int (1 : Int32))]))
    refine Go.step (fun _ k => XS.icmpNo X20.here hx rfl (hb hby at_50) rfl (teq (by decide : ((1 : Int32) = (1 : Int32)))).2 k) ?_
    show Go _ _ _ _ (T20.setTop (mkF m 53 #[.val (.int x0), .val (.int (4 : Int32)), .val (.ref b4), .val (.int (1 : Int32)), .val (.int (1 : Int32)), .unset] []))
    refine Go.step (fun _ k => XS.iconst X20.here hx rfl (hb hby at_53) k) ?_
    show Go _ _ _ _ (T20.setTop (mkF m 54 #[.val (.int x0), .val (.int (4 : Int32)), .val (.ref b4), .val (.int (1 : Int32)), .val (.int (1 : Int32)), .unset] [(.int (1 : Int32))]))
    refine Go.step (fun _ k => XS.goto X20.here hx rfl (pc0 := 54) (pc' := 58) rfl (hb hby at_54) (by decide) (by decide) k) ?_
    show Go _ _ _ _ (T20.setTop (mkF m 58 #[.val (.int x0), .val (.int (4 : Int32)), .val (.ref b4), .val (.int (1 : Int32)), .val (.int (1 : Int32)), .unset] [(.int (1 : Int32))]))
    refine Go.step (fun _ k => XS.istore X20.here hx rfl (hb hby at_58) rfl (l' := #[.val (.int x0), .val (.int (4 : Int32)), .val (.ref b4), .val (.int (1 : Int32)), .val (.int (1 : Int32)), .val (.int (1 : Int32))]) rfl k) ?_
    show Go _ _ _ _ (T20.setTop (mkF m 60 #[.val (.int x0), .val (.int (4 : Int32)), .val (.ref b4), .val (.int (1 : Int32)), .val (.int (1 : Int32)), .val (.int (1 : Int32))] []))
    refine Go.step (fun _ k => XS.iload X20.here hx rfl (hb hby at_60) rfl k) ?_
    show Go _ _ _ _ (T20.setTop (mkF m 62 #[.val (.int x0), .val (.int (4 : Int32)), .val (.ref b4), .val (.int (1 : Int32)), .val (.int (1 : Int32)), .val (.int (1 : Int32))] [(.int (1 : Int32))]))
    refine Go.step (fun _ k => XS.iloadN X20.here hx rfl (hb hby at_62) rfl k) ?_
    show Go _ _ _ _ (T20.setTop (mkF m 63 #[.val (.int x0), .val (.int (4 : Int32)), .val (.ref b4), .val (.int (1 : Int32)), .val (.int (1 : Int32)), .val (.int (1 : Int32))] [(.int (1 : Int32)), (.int (1 : Int32))]))
    refine Go.step (fun _ k => XS.icmpNo X20.here hx rfl (hb hby at_63) rfl (teq (by decide : ((1 : Int32) = (1 : Int32)))).2 k) ?_
    show Go _ _ _ _ (T20.setTop (mkF m 66 #[.val (.int x0), .val (.int (4 : Int32)), .val (.ref b4), .val (.int (1 : Int32)), .val (.int (1 : Int32)), .val (.int (1 : Int32))] []))
    refine Go.step (fun _ k => XS.iload X20.here hx rfl (hb hby at_66) rfl k) ?_
    show Go _ _ _ _ (T20.setTop (mkF m 68 #[.val (.int x0), .val (.int (4 : Int32)), .val (.ref b4), .val (.int (1 : Int32)), .val (.int (1 : Int32)), .val (.int (1 : Int32))] [(.int (1 : Int32))]))
    refine Go.step (fun _ k => XS.ifNo X20.here hx rfl (hb hby at_68) rfl ((if0 _ _).trans (feq (by decide : ¬ ((1 : Int32) = (0 : Int32)))).1) k) ?_
    show Go _ _ _ _ (T20.setTop (mkF m 71 #[.val (.int x0), .val (.int (4 : Int32)), .val (.ref b4), .val (.int (1 : Int32)), .val (.int (1 : Int32)), .val (.int (1 : Int32))] []))
    refine Go.step (fun _ k => XS.iconst X20.here hx rfl (hb hby at_71) k) ?_
    show Go _ _ _ _ (T20.setTop (mkF m 72 #[.val (.int x0), .val (.int (4 : Int32)), .val (.ref b4), .val (.int (1 : Int32)), .val (.int (1 : Int32)), .val (.int (1 : Int32))] [(.int (1 : Int32))]))
    refine Go.step (fun _ k => XS.goto X20.here hx rfl (pc0 := 72) (pc' := 76) rfl (hb hby at_72) (by decide) (by decide) k) ?_
    show Go _ _ _ _ (T20.setTop (mkF m 76 #[.val (.int x0), .val (.int (4 : Int32)), .val (.ref b4), .val (.int (1 : Int32)), .val (.int (1 : Int32)), .val (.int (1 : Int32))] [(.int (1 : Int32))]))
    exact leafN X20 hx (t := .boolean) hret (by simp) hlk (w := (1 : Int32)) rfl (hb hby at_76) ⟨rfl, Fr.nil _⟩ (by decide) (by decide)
  · rw [hk]
    show Go _ _ _ _ (s₁.setTop (mkF m 8 #[.val (.int x0), .val (.int (5 : Int32)), .unset, .unset, .unset, .unset] []))
    refine Go.step (fun _ k => XS.iloadN X0.here hx rfl (hb hby at_8) rfl k) ?_
    show Go _ _ _ _ (s₁.setTop (mkF m 9 #[.val (.int x0), .val (.int (5 : Int32)), .unset, .unset, .unset, .unset] [(.int (5 : Int32))]))
    refine goS X0 hx hZ hown (hw _ (List.mem_of_getElem? (i := 1) rfl)) (hw _ (List.mem_of_getElem? (i := 2) rfl)) (hw _ (List.mem_of_getElem? (i := 3) rfl)) (hw _ (List.mem_of_getElem? (i := 4) rfl)) (by decide) (rp5 l Z a0 hw [] h0 b0 b1 b2 b3 b4 b5 hO) e0 (by rw [hml]; rfl) [(.int (5 : Int32))] [] rfl pd1 rfl rfl 0 rfl (hb hby at_9) (by decide) (by decide) (by decide) (by decide) fun T21 L21 v21 q21 X21 => ?_
    obtain ⟨rfl, e21, rfl⟩ := q21
    rw [List.append_nil] at X21
    show Go _ _ _ _ (T21.setTop (mkF m 12 #[.val (.int x0), .val (.int (5 : Int32)), .unset, .unset, .unset, .unset] [(.ref b5)]))
    refine Go.step (fun _ k => XS.astoreN X21.here hx rfl (hb hby at_12) rfl rfl (l' := #[.val (.int x0), .val (.int (5 : Int32)), .val (.ref b5), .unset, .unset, .unset]) rfl k) ?_
    show Go _ _ _ _ (T21.setTop (mkF m 13 #[.val (.int x0), .val (.int (5 : Int32)), .val (.ref b5), .unset, .unset, .unset] []))
    refine Go.step (fun _ k => XS.iloadN X21.here hx rfl (hb hby at_13) rfl k) ?_
    show Go _ _ _ _ (T21.setTop (mkF m 14 #[.val (.int x0), .val (.int (5 : Int32)), .val (.ref b5), .unset, .unset, .unset] [(.int (5 : Int32))]))
    refine Go.step (fun _ k => XS.iconst X21.here hx rfl (hb hby at_14) k) ?_
    show Go _ _ _ _ (T21.setTop (mkF m 15 #[.val (.int x0), .val (.int (5 : Int32)), .val (.ref b5), .unset, .unset, .unset] [(.int (2 : Int32)), (.int (5 : Int32))]))
    refine Go.step (fun _ k => XS.icmpNo X21.here hx rfl (hb hby at_15) rfl (flt (by decide : ¬ ((5 : Int32) < (2 : Int32)))).1 k) ?_
    show Go _ _ _ _ (T21.setTop (mkF m 18 #[.val (.int x0), .val (.int (5 : Int32)), .val (.ref b5), .unset, .unset, .unset] []))
    refine Go.step (fun _ k => XS.iconst X21.here hx rfl (hb hby at_18) k) ?_
    show Go _ _ _ _ (T21.setTop (mkF m 19 #[.val (.int x0), .val (.int (5 : Int32)), .val (.ref b5), .unset, .unset, .unset] [(.int (1 : Int32))]))
    refine Go.step (fun _ k => XS.goto X21.here hx rfl (pc0 := 19) (pc' := 23) rfl (hb hby at_19) (by decide) (by decide) k) ?_
    show Go _ _ _ _ (T21.setTop (mkF m 23 #[.val (.int x0), .val (.int (5 : Int32)), .val (.ref b5), .unset, .unset, .unset] [(.int (1 : Int32))]))
    refine Go.step (fun _ k => XS.istoreN X21.here hx rfl (hb hby at_23) rfl (l' := #[.val (.int x0), .val (.int (5 : Int32)), .val (.ref b5), .val (.int (1 : Int32)), .unset, .unset]) rfl k) ?_
    show Go _ _ _ _ (T21.setTop (mkF m 24 #[.val (.int x0), .val (.int (5 : Int32)), .val (.ref b5), .val (.int (1 : Int32)), .unset, .unset] []))
    refine Go.step (fun _ k => XS.aloadN X21.here hx rfl (hb hby at_24) rfl rfl k) ?_
    show Go _ _ _ _ (T21.setTop (mkF m 25 #[.val (.int x0), .val (.int (5 : Int32)), .val (.ref b5), .val (.int (1 : Int32)), .unset, .unset] [(.ref b5)]))
    refine goV X21 hx hZ hown (hw _ (List.mem_of_getElem? (i := 8) rfl)) (hw _ (List.mem_of_getElem? (i := 9) rfl)) (notFace_of_selects (args := #[]) (mvT hZ (hw _ (List.mem_of_getElem? (i := 11) rfl)))) (hw _ (List.mem_of_getElem? (i := 11) rfl)) (hw _ (List.mem_of_getElem? (i := 10) rfl)) (hw _ (List.mem_of_getElem? (i := 6) rfl)) (hw _ (List.mem_of_getElem? (i := 12) rfl)) (by decide) (ro5 l Z a0 hw [] h0 b0 b1 b2 b3 b4 b5 hO) e21 hO.2.2.2.2.2.2.1 (by rw [hml]; rfl) [] [] rfl pd2 rfl rfl 0 rfl (hb hby at_25) (by decide) (by decide) (by decide) (by decide) fun T22 L22 v22 q22 X22 => ?_
    obtain ⟨rfl, e22, rfl⟩ := q22
    rw [List.append_nil] at X22
    show Go _ _ _ _ (T22.setTop (mkF m 28 #[.val (.int x0), .val (.int (5 : Int32)), .val (.ref b5), .val (.int (1 : Int32)), .unset, .unset] [(.int (1 : Int32))]))
    refine Go.step (fun _ k => XS.istore X22.here hx rfl (hb hby at_28) rfl (l' := #[.val (.int x0), .val (.int (5 : Int32)), .val (.ref b5), .val (.int (1 : Int32)), .val (.int (1 : Int32)), .unset]) rfl k) ?_
    show Go _ _ _ _ (T22.setTop (mkF m 30 #[.val (.int x0), .val (.int (5 : Int32)), .val (.ref b5), .val (.int (1 : Int32)), .val (.int (1 : Int32)), .unset] []))
    refine Go.step (fun _ k => XS.iload X22.here hx rfl (hb hby at_30) rfl k) ?_
    show Go _ _ _ _ (T22.setTop (mkF m 32 #[.val (.int x0), .val (.int (5 : Int32)), .val (.ref b5), .val (.int (1 : Int32)), .val (.int (1 : Int32)), .unset] [(.int (1 : Int32))]))
    refine Go.step (fun _ k => XS.aloadN X22.here hx rfl (hb hby at_32) rfl rfl k) ?_
    show Go _ _ _ _ (T22.setTop (mkF m 33 #[.val (.int x0), .val (.int (5 : Int32)), .val (.ref b5), .val (.int (1 : Int32)), .val (.int (1 : Int32)), .unset] [(.ref b5), (.int (1 : Int32))]))
    refine Go.step (fun _ k => XS.iconst X22.here hx rfl (hb hby at_33) k) ?_
    show Go _ _ _ _ (T22.setTop (mkF m 34 #[.val (.int x0), .val (.int (5 : Int32)), .val (.ref b5), .val (.int (1 : Int32)), .val (.int (1 : Int32)), .unset] [(.int (-1 : Int32)), (.ref b5), (.int (1 : Int32))]))
    refine goV X22 hx hZ hown (hw _ (List.mem_of_getElem? (i := 14) rfl)) (hw _ (List.mem_of_getElem? (i := 15) rfl)) (notFace_of_selects (args := #[]) (mvT hZ (hw _ (List.mem_of_getElem? (i := 17) rfl)))) (hw _ (List.mem_of_getElem? (i := 17) rfl)) (hw _ (List.mem_of_getElem? (i := 16) rfl)) (hw _ (List.mem_of_getElem? (i := 6) rfl)) (hw _ (List.mem_of_getElem? (i := 18) rfl)) (by decide) (rh5_m l Z a0 hw [] h0 b0 b1 b2 b3 b4 b5 hO) e22 hO.2.2.2.2.2.2.1 (by rw [hml]; rfl) [(.int (-1 : Int32))] [(.int (1 : Int32))] rfl pd3 rfl rfl 1 rfl (hb hby at_34) (by decide) (by decide) (by decide) (by decide) fun T23 L23 v23 q23 X23 => ?_
    obtain ⟨rfl, e23, rfl⟩ := q23
    rw [List.append_nil] at X23
    show Go _ _ _ _ (T23.setTop (mkF m 37 #[.val (.int x0), .val (.int (5 : Int32)), .val (.ref b5), .val (.int (1 : Int32)), .val (.int (1 : Int32)), .unset] [(.int (0 : Int32)), (.int (1 : Int32))]))
    refine Go.step (fun _ k => XS.aloadN X23.here hx rfl (hb hby at_37) rfl rfl k) ?_
    show Go _ _ _ _ (T23.setTop (mkF m 38 #[.val (.int x0), .val (.int (5 : Int32)), .val (.ref b5), .val (.int (1 : Int32)), .val (.int (1 : Int32)), .unset] [(.ref b5), (.int (0 : Int32)), (.int (1 : Int32))]))
    refine Go.step (fun _ k => XS.iconst X23.here hx rfl (hb hby at_38) k) ?_
    show Go _ _ _ _ (T23.setTop (mkF m 39 #[.val (.int x0), .val (.int (5 : Int32)), .val (.ref b5), .val (.int (1 : Int32)), .val (.int (1 : Int32)), .unset] [(.int (1 : Int32)), (.ref b5), (.int (0 : Int32)), (.int (1 : Int32))]))
    refine goV X23 hx hZ hown (hw _ (List.mem_of_getElem? (i := 14) rfl)) (hw _ (List.mem_of_getElem? (i := 15) rfl)) (notFace_of_selects (args := #[]) (mvT hZ (hw _ (List.mem_of_getElem? (i := 17) rfl)))) (hw _ (List.mem_of_getElem? (i := 17) rfl)) (hw _ (List.mem_of_getElem? (i := 16) rfl)) (hw _ (List.mem_of_getElem? (i := 6) rfl)) (hw _ (List.mem_of_getElem? (i := 18) rfl)) (by decide) (rh5_p l Z a0 hw [] h0 b0 b1 b2 b3 b4 b5 hO) e23 hO.2.2.2.2.2.2.1 (by rw [hml]; rfl) [(.int (1 : Int32))] [(.int (0 : Int32)), (.int (1 : Int32))] rfl pd3 rfl rfl 2 rfl (hb hby at_39) (by decide) (by decide) (by decide) (by decide) fun T24 L24 v24 q24 X24 => ?_
    obtain ⟨rfl, e24, rfl⟩ := q24
    rw [List.append_nil] at X24
    show Go _ _ _ _ (T24.setTop (mkF m 42 #[.val (.int x0), .val (.int (5 : Int32)), .val (.ref b5), .val (.int (1 : Int32)), .val (.int (1 : Int32)), .unset] [(.int (1 : Int32)), (.int (0 : Int32)), (.int (1 : Int32))]))
    refine Go.step (fun _ k => XS.icmpNo X24.here hx rfl (hb hby at_42) rfl (feq (by decide : ¬ ((0 : Int32) = (1 : Int32)))).1 k) ?_
    show Go _ _ _ _ (T24.setTop (mkF m 45 #[.val (.int x0), .val (.int (5 : Int32)), .val (.ref b5), .val (.int (1 : Int32)), .val (.int (1 : Int32)), .unset] [(.int (1 : Int32))]))
    refine Go.step (fun _ k => XS.iconst X24.here hx rfl (hb hby at_45) k) ?_
    show Go _ _ _ _ (T24.setTop (mkF m 46 #[.val (.int x0), .val (.int (5 : Int32)), .val (.ref b5), .val (.int (1 : Int32)), .val (.int (1 : Int32)), .unset] [(.int (1 : Int32)), (.int (1 : Int32))]))
    refine Go.step (fun _ k => XS.goto X24.here hx rfl (pc0 := 46) (pc' := 50) rfl (hb hby at_46) (by decide) (by decide) k) ?_
    show Go _ _ _ _ (T24.setTop (mkF m 50 #[.val (.int x0), .val (.int (5 : Int32)), .val (.ref b5), .val (.int (1 : Int32)), .val (.int (1 : Int32)), .unset] [(.int (1 : Int32)), (.int (1 : Int32))]))
    refine Go.step (fun _ k => XS.icmpNo X24.here hx rfl (hb hby at_50) rfl (teq (by decide : ((1 : Int32) = (1 : Int32)))).2 k) ?_
    show Go _ _ _ _ (T24.setTop (mkF m 53 #[.val (.int x0), .val (.int (5 : Int32)), .val (.ref b5), .val (.int (1 : Int32)), .val (.int (1 : Int32)), .unset] []))
    refine Go.step (fun _ k => XS.iconst X24.here hx rfl (hb hby at_53) k) ?_
    show Go _ _ _ _ (T24.setTop (mkF m 54 #[.val (.int x0), .val (.int (5 : Int32)), .val (.ref b5), .val (.int (1 : Int32)), .val (.int (1 : Int32)), .unset] [(.int (1 : Int32))]))
    refine Go.step (fun _ k => XS.goto X24.here hx rfl (pc0 := 54) (pc' := 58) rfl (hb hby at_54) (by decide) (by decide) k) ?_
    show Go _ _ _ _ (T24.setTop (mkF m 58 #[.val (.int x0), .val (.int (5 : Int32)), .val (.ref b5), .val (.int (1 : Int32)), .val (.int (1 : Int32)), .unset] [(.int (1 : Int32))]))
    refine Go.step (fun _ k => XS.istore X24.here hx rfl (hb hby at_58) rfl (l' := #[.val (.int x0), .val (.int (5 : Int32)), .val (.ref b5), .val (.int (1 : Int32)), .val (.int (1 : Int32)), .val (.int (1 : Int32))]) rfl k) ?_
    show Go _ _ _ _ (T24.setTop (mkF m 60 #[.val (.int x0), .val (.int (5 : Int32)), .val (.ref b5), .val (.int (1 : Int32)), .val (.int (1 : Int32)), .val (.int (1 : Int32))] []))
    refine Go.step (fun _ k => XS.iload X24.here hx rfl (hb hby at_60) rfl k) ?_
    show Go _ _ _ _ (T24.setTop (mkF m 62 #[.val (.int x0), .val (.int (5 : Int32)), .val (.ref b5), .val (.int (1 : Int32)), .val (.int (1 : Int32)), .val (.int (1 : Int32))] [(.int (1 : Int32))]))
    refine Go.step (fun _ k => XS.iloadN X24.here hx rfl (hb hby at_62) rfl k) ?_
    show Go _ _ _ _ (T24.setTop (mkF m 63 #[.val (.int x0), .val (.int (5 : Int32)), .val (.ref b5), .val (.int (1 : Int32)), .val (.int (1 : Int32)), .val (.int (1 : Int32))] [(.int (1 : Int32)), (.int (1 : Int32))]))
    refine Go.step (fun _ k => XS.icmpNo X24.here hx rfl (hb hby at_63) rfl (teq (by decide : ((1 : Int32) = (1 : Int32)))).2 k) ?_
    show Go _ _ _ _ (T24.setTop (mkF m 66 #[.val (.int x0), .val (.int (5 : Int32)), .val (.ref b5), .val (.int (1 : Int32)), .val (.int (1 : Int32)), .val (.int (1 : Int32))] []))
    refine Go.step (fun _ k => XS.iload X24.here hx rfl (hb hby at_66) rfl k) ?_
    show Go _ _ _ _ (T24.setTop (mkF m 68 #[.val (.int x0), .val (.int (5 : Int32)), .val (.ref b5), .val (.int (1 : Int32)), .val (.int (1 : Int32)), .val (.int (1 : Int32))] [(.int (1 : Int32))]))
    refine Go.step (fun _ k => XS.ifNo X24.here hx rfl (hb hby at_68) rfl ((if0 _ _).trans (feq (by decide : ¬ ((1 : Int32) = (0 : Int32)))).1) k) ?_
    show Go _ _ _ _ (T24.setTop (mkF m 71 #[.val (.int x0), .val (.int (5 : Int32)), .val (.ref b5), .val (.int (1 : Int32)), .val (.int (1 : Int32)), .val (.int (1 : Int32))] []))
    refine Go.step (fun _ k => XS.iconst X24.here hx rfl (hb hby at_71) k) ?_
    show Go _ _ _ _ (T24.setTop (mkF m 72 #[.val (.int x0), .val (.int (5 : Int32)), .val (.ref b5), .val (.int (1 : Int32)), .val (.int (1 : Int32)), .val (.int (1 : Int32))] [(.int (1 : Int32))]))
    refine Go.step (fun _ k => XS.goto X24.here hx rfl (pc0 := 72) (pc' := 76) rfl (hb hby at_72) (by decide) (by decide) k) ?_
    show Go _ _ _ _ (T24.setTop (mkF m 76 #[.val (.int x0), .val (.int (5 : Int32)), .val (.ref b5), .val (.int (1 : Int32)), .val (.int (1 : Int32)), .val (.int (1 : Int32))] [(.int (1 : Int32))]))
    exact leafN X24 hx (t := .boolean) hret (by simp) hlk (w := (1 : Int32)) rfl (hb hby at_76) ⟨rfl, Fr.nil _⟩ (by decide) (by decide)
set_option maxRecDepth 65536 in
set_option maxHeartbeats 40000000 in
theorem comes_1 {Post : Tables → Env → Array Value → State → Outcome → State → Prop} (hpost : ∀ tb e args s v u, (limb_1_1.after args s (.returned v) u = true ∧ limb_1_2.after args s (.returned v) u = true ∧ True) → FrameEnd s (.returned v) u (Jvm.fieldLocs frame_1_writes args s ++ Jvm.arrayLocs frame_1_arrays args s ++ Jvm.staticLocs frame_1_statics s) 0 0 → Post tb e args s (.returned v) u) :
    ArmFor flags0 classFile x code maxLocals ret World_1 tables_1 room_1 Calls_1 rest_1 Pre_1 Post := by
  intro l hfl _ _ p e ha hc hk s m args below hf hA hF happ hP
  obtain ⟨hcalls, hrest, hpre⟩ := hP
  obtain ⟨-, -, -, hnamed, -, -, -, hat⟩ := (Spec.applies_iff hf).mp happ
  obtain ⟨hg, hn⟩ := and_e (Cond.before_iff.mp (show (Jvm.Cond.and given_1 narrow_1).before args s = true from hpre))
  obtain ⟨hcount, hg0⟩ := and_e hg
  have ha0 := hg0
  obtain ⟨w0, rfl⟩ : ∃ w0 : Value, args = #[w0] := by
    have hs : args.size = 1 := by simpa [Cond.value, given_1] using hcount
    obtain ⟨L⟩ := args
    match L, hs with
    | [w0], _ => exact ⟨w0, rfl⟩
  have hw := fun d (hd : d ∈ tables_1) => atoms_spec (ws := Jvm.Cond.code x code maxLocals ret :: tables_1) hat d (List.mem_cons_of_mem _ hd)
  obtain ⟨i0, ei0⟩ := is_v ha0
  obtain rfl : w0 = (.int i0) := Option.some.inj ei0
  have mk : ∀ (n : String) (k : Int32), (Jvm.Cond.exactly (Jvm.Term.static "com/example/topiq/topiq/sql/SqlExpression$Operator" n "Lcom/example/topiq/topiq/sql/SqlExpression$Operator;") "com/example/topiq/topiq/sql/SqlExpression$Operator").value #[.int i0] s none s [] = some true → (Jvm.Cond.eq (Jvm.Term.field (Jvm.Term.static "com/example/topiq/topiq/sql/SqlExpression$Operator" n "Lcom/example/topiq/topiq/sql/SqlExpression$Operator;") "java/lang/Enum" "ordinal" "I") (Jvm.Term.int k)).value #[.int i0] s none s [] = some true → (Jvm.Cond.laysStatic "com/example/topiq/topiq/sql/SqlExpression$Operator" n "Lcom/example/topiq/topiq/sql/SqlExpression$Operator;").before #[.int i0] s = true → ∃ b, OpAt s s.heap n k b := fun n k q1 q2 q3 => by
    obtain ⟨b, ev⟩ := exa_v q1
    have ef := Jvm.Free.NT.SwA.eq_int (Cond.before_iff.mpr q2)
    rw [fld_at ev] at ef
    exact ⟨b, Sta.start ev (Or.inr ⟨(hw _ (List.mem_of_getElem? (i := 6) rfl)), q3⟩), Exa.start ev q1, Fld.start ef⟩
  obtain ⟨x0, hr0⟩ := and_e hn
  obtain ⟨o0, hs0⟩ := and_e hr0
  obtain ⟨x3, hr3⟩ := and_e hs0
  obtain ⟨o3, hs3⟩ := and_e hr3
  obtain ⟨x1, hr1⟩ := and_e hs3
  obtain ⟨o1, hs1⟩ := and_e hr1
  obtain ⟨x2, hr2⟩ := and_e hs1
  obtain ⟨o2, hs2⟩ := and_e hr2
  obtain ⟨x5, hr5⟩ := and_e hs2
  obtain ⟨o5, hs5⟩ := and_e hr5
  obtain ⟨x4, hr4⟩ := and_e hs5
  have o4 := hr4
  obtain ⟨b0, q0⟩ := mk "EQUAL" 0 x0 o0 (hw _ (List.mem_of_getElem? (i := 7) rfl))
  obtain ⟨b1, q1⟩ := mk "NOT_EQUAL" 1 x1 o1 (hw _ (List.mem_of_getElem? (i := 31) rfl))
  obtain ⟨b2, q2⟩ := mk "LESS" 2 x2 o2 (hw _ (List.mem_of_getElem? (i := 33) rfl))
  obtain ⟨b3, q3⟩ := mk "LESS_OR_EQUAL" 3 x3 o3 (hw _ (List.mem_of_getElem? (i := 29) rfl))
  obtain ⟨b4, q4⟩ := mk "GREATER" 4 x4 o4 (hw _ (List.mem_of_getElem? (i := 38) rfl))
  obtain ⟨b5, q5⟩ := mk "GREATER_OR_EQUAL" 5 x5 o5 (hw _ (List.mem_of_getElem? (i := 36) rfl))
  obtain ⟨n, o, h1, h2, h3, _, L, rfl, ⟨rfl, N⟩, hq⟩ := rm0 l s _ hw tables_1 i0 s.heap b0 b1 b2 b3 b4 b5 ⟨q0, q1, q2, q3, q4, q5⟩ p e ha hc hk s m _ below hf ((Spec.applies_iff_loose hf).mp happ).1 ⟨rfl, State.Warmed39.refl s, rfl⟩ trivial
  refine ⟨n, _, h1, h2, h3, hpost _ _ _ _ _ _ ⟨Cond.after_iff.mpr rfl, Cond.after_iff.mpr (eq_i res_at (Term.int_eval (1)) rfl), trivial⟩ ⟨hq.1, hq.2.1, (hq.2.2.sift fun y hy => Or.inr (N y hy)).mono (by decide) (by decide)⟩⟩
theorem main_1_1 : Claimed_1_1 := comes_1 fun _ _ _ _ _ _ h hF => ⟨h.1, hF⟩
theorem main_1_2 : Claimed_1_2 := comes_1 fun _ _ _ _ _ _ h hF => ⟨h.2.1, hF⟩
end Jvm.Pilot.@@N@@
namespace Jvm.Pilot.@@N@@
open Jvm Jvm.ClassFile Sem Op Lib Jvm.Free Jvm.Stand Jvm.Pilot.@@N@@.Jvm.D
/-! MADE BY PROGRAM (witnessworld.py) out of the Statement's table words and the real class files: 12 classes; the members and pool entries that the words name. The judged class is class 1, her method 1. -/
namespace start1
open Jvm.ClassFile
def u (s : String) : CpInfo := .utf8 (stringToUtf16 s)
/-- a pool by its gaps: so many unusable entries, then the entry; so many at the end -/
def gap : Nat → List CpInfo → List CpInfo
  | 0, r => r
  | n + 1, r => .unusable :: gap n r
def poolList (es : List (Nat × CpInfo)) (last : Nat) : List CpInfo := es.foldr (fun e r => gap e.1 (e.2 :: r)) (gap last [])
def pool (es : List (Nat × CpInfo)) (last : Nat) : Array CpInfo := ⟨poolList es last⟩
def fileOf (pool : Array CpInfo) (this : Nat) (attrs : Array Attribute := #[]) (ms : Array MethodInfo := #[]) (fl : Nat := 33) (sup : Nat := 0) (ifs : Array Nat := #[]) (fds : Array FieldInfo := #[]) : ClassFile where
  minorVersion := 0
  majorVersion := 65
  constantPool := pool
  accessFlags := fl
  thisClass := this
  superClass := sup
  interfaces := ifs
  fields := fds
  methods := ms
  attributes := attrs
def plain (name : String) (sup : Option ClassId) : Class where
  name := name
  kind := .ordinary
  loader := none
  accessFlags := 33
  super := sup
  interfaces := #[]
  cf := none
  fields := #[]
  methods := #[]
  instanceTypes := #[]
  staticTypes := #[]
  resolved := #[]
  callSites := []
  init := .initialized
  statics := none
  mirror := none

def pool0 : Array CpInfo := pool [(5, u "<init>"), (0, u "()V"), (1, .class_ 10), (1, u "java/lang/Object")] 113

def k0m0 : Method := { name := "<init>", desc := "()V", sig := { parameters := [], returnType := none }, accessFlags := 1, code := none }
/-- java/lang/Object -/
def k0 : Class := { plain "java/lang/Object" none with
  accessFlags := 33
  interfaces := #[]
  cf := some (fileOf pool0 8 #[] #[{ accessFlags := 1, nameIndex := 5, descriptorIndex := 6, attributes := #[] }] 33 0 #[] #[])
  fields := #[]
  methods := #[k0m0]
  instanceTypes := #[]
  staticTypes := #[]
  resolved := Array.replicate 124 none
  statics := none }

def pool1 : Array CpInfo := pool [(2, .class_ 4), (1, u "java/lang/Object"), (0, u "<init>"), (0, u "()V"), (0, .integer 2147483647), (0, .methodref 9 10), (0, .class_ 11), (0, .nameAndType 12 13), (0, u "com/example/topiq/topiq/sql/OperatorOrderingPinLaw"), (0, u "pick"), (0, u "(I)Lcom/example/topiq/topiq/sql/SqlExpression$Operator;"), (0, .methodref 15 16), (0, .class_ 17), (0, .nameAndType 18 19), (0, u "com/example/topiq/topiq/sql/SqlExpression$Operator"), (0, u "ordering"), (0, u "()Z"), (0, .methodref 15 21), (0, .nameAndType 22 23), (0, u "holds"), (0, u "(I)Z"), (0, .fieldref 15 25), (0, .nameAndType 26 27), (0, u "EQUAL"), (0, u "Lcom/example/topiq/topiq/sql/SqlExpression$Operator;"), (0, .fieldref 15 29), (0, .nameAndType 30 27), (0, u "NOT_EQUAL"), (0, .fieldref 15 32), (0, .nameAndType 33 27), (0, u "LESS"), (0, .fieldref 15 35), (0, .nameAndType 36 27), (0, u "LESS_OR_EQUAL"), (0, .fieldref 15 38), (0, .nameAndType 39 27), (0, u "GREATER"), (0, .fieldref 15 41), (0, .nameAndType 42 27), (0, u "GREATER_OR_EQUAL"), (2, u "law")] 7

def k1m0 : Method := { name := "<init>", desc := "()V", sig := { parameters := [], returnType := none }, accessFlags := 1, code := none }
def k1c1 : Code := { maxStack := 4, maxLocals := 6, code := code, exceptionTable := #[], attributes := #[] }
def k1m1 : Method := { name := "law", desc := "(I)Z", sig := { parameters := [.int], returnType := some .boolean }, accessFlags := 9, code := some k1c1 }
def k1c2 : Code := { maxStack := 2, maxLocals := 1, code := method_3_code, exceptionTable := #[], attributes := #[] }
def k1m2 : Method := { name := "pick", desc := "(I)Lcom/example/topiq/topiq/sql/SqlExpression$Operator;", sig := { parameters := [.int], returnType := some (.object "com/example/topiq/topiq/sql/SqlExpression$Operator") }, accessFlags := 10, code := some k1c2 }
/-- com/example/topiq/topiq/sql/OperatorOrderingPinLaw -/
def k1 : Class := { plain "com/example/topiq/topiq/sql/OperatorOrderingPinLaw" (some 0) with
  accessFlags := 49
  interfaces := #[]
  cf := some (fileOf pool1 9 #[] #[{ accessFlags := 1, nameIndex := 5, descriptorIndex := 6, attributes := #[] }, { accessFlags := 9, nameIndex := 45, descriptorIndex := 23, attributes := #[] }, { accessFlags := 10, nameIndex := 12, descriptorIndex := 13, attributes := #[] }] 49 2 #[] #[])
  fields := #[]
  methods := #[k1m0, k1m1, k1m2]
  instanceTypes := #[]
  staticTypes := #[]
  resolved := Array.replicate 53 none
  statics := none }

def pool2 : Array CpInfo := pool [(1, .class_ 2), (0, u "java/lang/constant/Constable"), (0, .class_ 4), (0, u "java/lang/Object")] 6

/-- java/lang/constant/Constable -/
def k2 : Class := { plain "java/lang/constant/Constable" (some 0) with
  accessFlags := 1537
  interfaces := #[]
  cf := some (fileOf pool2 1 #[] #[] 1537 3 #[] #[])
  fields := #[]
  methods := #[]
  instanceTypes := #[]
  staticTypes := #[]
  resolved := Array.replicate 11 none
  statics := none }

def pool3 : Array CpInfo := pool [(1, .class_ 2), (0, u "java/lang/Comparable"), (0, .class_ 4), (0, u "java/lang/Object")] 7

/-- java/lang/Comparable -/
def k3 : Class := { plain "java/lang/Comparable" (some 0) with
  accessFlags := 1537
  interfaces := #[]
  cf := some (fileOf pool3 1 #[] #[] 1537 3 #[] #[])
  fields := #[]
  methods := #[]
  instanceTypes := #[]
  staticTypes := #[]
  resolved := Array.replicate 12 none
  statics := none }

def pool4 : Array CpInfo := pool [(1, .class_ 2), (0, u "java/io/Serializable"), (0, .class_ 4), (0, u "java/lang/Object")] 2

/-- java/io/Serializable -/
def k4 : Class := { plain "java/io/Serializable" (some 0) with
  accessFlags := 1537
  interfaces := #[]
  cf := some (fileOf pool4 1 #[] #[] 1537 3 #[] #[])
  fields := #[]
  methods := #[]
  instanceTypes := #[]
  staticTypes := #[]
  resolved := Array.replicate 7 none
  statics := none }

def pool5 : Array CpInfo := pool [(2, .class_ 4), (1, u "java/lang/Enum"), (0, u "name"), (0, u "Ljava/lang/String;"), (0, .fieldref 2 8), (0, .nameAndType 9 10), (0, u "ordinal"), (0, u "I"), (1, .class_ 14), (1, u "java/lang/Object"), (4, u "hash"), (86, .class_ 108), (1, u "java/lang/Enum$EnumDesc"), (2, .class_ 112), (0, u "java/lang/constant/Constable"), (0, .class_ 114), (0, u "java/lang/Comparable"), (0, .class_ 116), (0, u "java/io/Serializable"), (9, u "()I")] 77

def k5c0 : Code := { maxStack := 1, maxLocals := 1, code := jdk_37_method_2_code, exceptionTable := #[], attributes := #[] }
def k5m0 : Method := { name := "ordinal", desc := "()I", sig := { parameters := [], returnType := some .int }, accessFlags := 17, code := some k5c0 }
/-- java/lang/Enum -/
def k5 : Class := { plain "java/lang/Enum" (some 0) with
  accessFlags := 1057
  interfaces := #[2, 3, 4]
  cf := some (fileOf pool5 2 #[.nestMembers #[106]] #[{ accessFlags := 17, nameIndex := 9, descriptorIndex := 126, attributes := #[] }] 1057 12 #[111, 113, 115] #[{ accessFlags := 18, nameIndex := 5, descriptorIndex := 6, attributes := #[] }, { accessFlags := 18, nameIndex := 9, descriptorIndex := 10, attributes := #[] }, { accessFlags := 2, nameIndex := 19, descriptorIndex := 10, attributes := #[] }])
  fields := #[{ name := "name", type := (.object "java/lang/String"), accessFlags := 18, slot := 0, constantValue := 0 }, { name := "ordinal", type := .int, accessFlags := 18, slot := 1, constantValue := 0 }, { name := "hash", type := .int, accessFlags := 2, slot := 2, constantValue := 0 }]
  methods := #[k5m0]
  instanceTypes := #[(.object "java/lang/String"), .int, .int]
  staticTypes := #[]
  resolved := Array.replicate 204 none
  statics := none }

def pool6 : Array CpInfo := pool [(1, .class_ 2), (0, u "com/example/topiq/topiq/sql/SqlExpression$Operator"), (0, .fieldref 1 4), (0, .nameAndType 5 6), (0, u "EQUAL"), (0, u "Lcom/example/topiq/topiq/sql/SqlExpression$Operator;"), (0, .fieldref 1 8), (0, .nameAndType 9 6), (0, u "NOT_EQUAL"), (2, u "LESS"), (2, u "LESS_OR_EQUAL"), (2, u "GREATER"), (2, u "GREATER_OR_EQUAL"), (2, u "$VALUES"), (0, u "[Lcom/example/topiq/topiq/sql/SqlExpression$Operator;"), (6, .class_ 34), (1, u "java/lang/Enum"), (8, u "symbol"), (0, u "Ljava/lang/String;"), (0, .methodref 1 46), (0, .nameAndType 47 48), (0, u "ordinal"), (0, u "()I"), (38, u "ordering"), (0, u "()Z"), (1, u "holds"), (0, u "(I)Z"), (6, .class_ 99), (0, u "com/example/topiq/topiq/sql/SqlExpression")] 2

def k6c0 : Code := { maxStack := 2, maxLocals := 1, code := prog_58_method_5_code, exceptionTable := #[], attributes := #[] }
def k6m0 : Method := { name := "ordering", desc := "()Z", sig := { parameters := [], returnType := some .boolean }, accessFlags := 0, code := some k6c0 }
def k6c1 : Code := { maxStack := 4, maxLocals := 2, code := prog_58_method_6_code, exceptionTable := #[], attributes := #[] }
def k6m1 : Method := { name := "holds", desc := "(I)Z", sig := { parameters := [.int], returnType := some .boolean }, accessFlags := 0, code := some k6c1 }
/-- com/example/topiq/topiq/sql/SqlExpression$Operator -/
def k6 : Class := { plain "com/example/topiq/topiq/sql/SqlExpression$Operator" (some 5) with
  accessFlags := 16433
  interfaces := #[]
  cf := some (fileOf pool6 1 #[.nestHost 98] #[{ accessFlags := 0, nameIndex := 87, descriptorIndex := 88, attributes := #[] }, { accessFlags := 0, nameIndex := 90, descriptorIndex := 91, attributes := #[] }] 16433 32 #[] #[{ accessFlags := 16409, nameIndex := 5, descriptorIndex := 6, attributes := #[] }, { accessFlags := 16409, nameIndex := 9, descriptorIndex := 6, attributes := #[] }, { accessFlags := 16409, nameIndex := 12, descriptorIndex := 6, attributes := #[] }, { accessFlags := 16409, nameIndex := 15, descriptorIndex := 6, attributes := #[] }, { accessFlags := 16409, nameIndex := 18, descriptorIndex := 6, attributes := #[] }, { accessFlags := 16409, nameIndex := 21, descriptorIndex := 6, attributes := #[] }, { accessFlags := 18, nameIndex := 43, descriptorIndex := 44, attributes := #[] }, { accessFlags := 4122, nameIndex := 24, descriptorIndex := 25, attributes := #[] }])
  fields := #[{ name := "EQUAL", type := (.object "com/example/topiq/topiq/sql/SqlExpression$Operator"), accessFlags := 16409, slot := 0, constantValue := 0 }, { name := "NOT_EQUAL", type := (.object "com/example/topiq/topiq/sql/SqlExpression$Operator"), accessFlags := 16409, slot := 1, constantValue := 0 }, { name := "LESS", type := (.object "com/example/topiq/topiq/sql/SqlExpression$Operator"), accessFlags := 16409, slot := 2, constantValue := 0 }, { name := "LESS_OR_EQUAL", type := (.object "com/example/topiq/topiq/sql/SqlExpression$Operator"), accessFlags := 16409, slot := 3, constantValue := 0 }, { name := "GREATER", type := (.object "com/example/topiq/topiq/sql/SqlExpression$Operator"), accessFlags := 16409, slot := 4, constantValue := 0 }, { name := "GREATER_OR_EQUAL", type := (.object "com/example/topiq/topiq/sql/SqlExpression$Operator"), accessFlags := 16409, slot := 5, constantValue := 0 }, { name := "symbol", type := (.object "java/lang/String"), accessFlags := 18, slot := 3, constantValue := 0 }, { name := "$VALUES", type := (.array (.object "com/example/topiq/topiq/sql/SqlExpression$Operator")), accessFlags := 4122, slot := 6, constantValue := 0 }]
  methods := #[k6m0, k6m1]
  instanceTypes := #[(.object "java/lang/String"), .int, .int, (.object "java/lang/String")]
  staticTypes := #[(.object "com/example/topiq/topiq/sql/SqlExpression$Operator"), (.object "com/example/topiq/topiq/sql/SqlExpression$Operator"), (.object "com/example/topiq/topiq/sql/SqlExpression$Operator"), (.object "com/example/topiq/topiq/sql/SqlExpression$Operator"), (.object "com/example/topiq/topiq/sql/SqlExpression$Operator"), (.object "com/example/topiq/topiq/sql/SqlExpression$Operator"), (.array (.object "com/example/topiq/topiq/sql/SqlExpression$Operator"))]
  resolved := Array.replicate 102 none
  statics := some 0 }

def pool7 : Array CpInfo := pool [(1, u "java/lang/Cloneable"), (0, .class_ 1), (0, u "java/lang/Object"), (0, .class_ 3)] 3

/-- java/lang/Cloneable -/
def k7 : Class := { plain "java/lang/Cloneable" (some 0) with
  accessFlags := 1537
  interfaces := #[]
  cf := some (fileOf pool7 2 #[] #[] 1537 4 #[] #[])
  fields := #[]
  methods := #[]
  instanceTypes := #[]
  staticTypes := #[]
  resolved := Array.replicate 8 none
  statics := none }

/-- the primitive byte -/
def k8 : Class := { plain "byte" none with kind := .primitive 'B', accessFlags := 0x411 }
/-- [B -/
def k9 : Class := { plain "[B" (some 0) with kind := .array 8 .byte, interfaces := #[7, 4], accessFlags := 1041 }

/-- the primitive int -/
def k10 : Class := { plain "int" none with kind := .primitive 'I', accessFlags := 0x411 }
/-- [I -/
def k11 : Class := { plain "[I" (some 0) with kind := .array 10 .int, interfaces := #[7, 4], accessFlags := 1041 }

def heap : Heap := #[{ cls := 6, slots := #[.ref 1, .ref 2, .ref 3, .ref 4, .ref 5, .ref 6, .null], vm := .statics 6 },
  { cls := 6, slots := #[.null, .int 0, .int 0, .null], vm := .none },
  { cls := 6, slots := #[.null, .int 1, .int 0, .null], vm := .none },
  { cls := 6, slots := #[.null, .int 2, .int 0, .null], vm := .none },
  { cls := 6, slots := #[.null, .int 3, .int 0, .null], vm := .none },
  { cls := 6, slots := #[.null, .int 4, .int 0, .null], vm := .none },
  { cls := 6, slots := #[.null, .int 5, .int 0, .null], vm := .none }]
def classes : Array Class := #[k0, k1, k2, k3, k4, k5, k6, k7, k8, k9, k10, k11]
def interned : List (Array UInt16 × Addr) := []
def slotsUsed : Nat := 31
def theMethod : MethodId := ⟨1, 1⟩
def args0 : Array Value := #[.int 5]
def aboutOver (below : List Frame) : State where
  vm := { classes := classes, interned := interned.toArray }
  heap := heap
  slotsUsed := slotsUsed
  threads := #[{ frames := .invoking theMethod args0 :: below }]
def below0 : List Frame := [.native { method := ⟨0, 0⟩, args := #[] }]
def about1 : State := aboutOver below0
def p0 : Program := .bare "" "" ""
def e0 : Env := launch0.env 0 0 0
theorem w_frames : about1.frames = Frame.invoking theMethod args0 :: below0 := rfl
set_option maxRecDepth 65536 in
theorem w_args : argsFit about1.vm theMethod args0 = true := by decide +kernel
set_option maxRecDepth 65536 in
theorem w_heap : heapFits about1 = true := by decide +kernel
set_option maxRecDepth 65536 in
theorem w_runnable : about1.curStatus? = some .runnable := by decide +kernel
set_option maxRecDepth 65536 in
theorem w_alone : about1.alone = true := by decide +kernel
set_option maxRecDepth 65536 in
theorem w_named : about1.methodNamed? x = some theMethod := by decide +kernel
set_option maxRecDepth 65536 in
theorem w_hears : about1.hears theMethod below0 = true := by decide +kernel
set_option maxRecDepth 65536 in
theorem w_ripe : about1.ripe theMethod args0 below0 = true := by decide +kernel
theorem w_running : about1.status = .running := rfl
set_option maxRecDepth 65536 in
theorem w_room : about1.hasRoom e0.platform room_1 = true :=
  launch0.hasRoom_least _ room_1 (by decide +kernel) (by decide +kernel) (by decide +kernel) (by decide +kernel) (by decide +kernel) (by decide +kernel)
theorem allAtoms_all (ts : List Jvm.Cond) (a : Array Jvm.Value) (st : Jvm.State) : (allAtoms ts).before a st = ts.all (fun c => c.before a st) := by
  induction ts with
  | nil => rfl
  | cons c t ih =>
    show (Jvm.Cond.and c (allAtoms t)).before a st = _
    rw [Jvm.Cond.before_and, ih, List.all_cons]
def words1 : List Jvm.Cond := Jvm.Cond.code x code maxLocals ret :: tables_1
/-- a 'code' word, met by the world's own term for the bytes: nothing is compared byte by byte -/
theorem code_word {y : MethodName} {bytes : ByteArray} {mx : Nat} {rt : Option FieldType} {a : Array Value} {s : State} {m : MethodId} {meth : Method} {c : Code} (h1 : s.methodNamed? y = some m) (h2 : s.vm.method? m = some meth) (h3 : meth.code = some c) (h4 : c.code = bytes)
    (h5 : (c.maxLocals == mx && c.exceptionTable.isEmpty && decide (c.maxStack ≤ mostOperands) && decide (meth.sig.returnType = rt) && !meth.locks && decide (parseMethodDescriptor y.desc = some meth.sig)) = true) : (Jvm.Cond.code y bytes mx rt).before a s = true := by
  simp only [Bool.and_eq_true, beq_iff_eq, Bool.not_eq_true', decide_eq_true_eq] at h5
  obtain ⟨⟨⟨⟨⟨g1, g2⟩, g3⟩, g4⟩, g5⟩, g6⟩ := h5
  simp [Cond.before, Cond.holds, Cond.value, h1, h2, h3, h4, g1, g2, g3, g4, g5, g6]
def isCode : Jvm.Cond → Bool
  | .code _ _ _ _ => true
  | _ => false
theorem all_split {L : List Jvm.Cond} {P : Jvm.Cond → Bool} (h1 : L.all (fun c => isCode c || P c) = true) (h2 : ∀ c ∈ L.filter isCode, P c = true) : L.all P = true := by
  refine List.all_eq_true.mpr fun c hc => ?_
  have h := List.all_eq_true.mp h1 c hc
  rcases Bool.eq_false_or_eq_true (isCode c) with hi | hi
  · exact h2 c (List.mem_filter.mpr ⟨hc, hi⟩)
  · simpa [hi] using h
set_option maxRecDepth 65536 in
theorem w_c0 : (Jvm.Cond.code x code maxLocals ret).before args0 about1 = true := code_word (m := ⟨1, 1⟩) (meth := k1m1) (c := k1c1) (by decide +kernel) rfl rfl rfl (by decide +kernel)
set_option maxRecDepth 65536 in
theorem w_c1 : (Jvm.Cond.code ({ cls := "com/example/topiq/topiq/sql/OperatorOrderingPinLaw", name := "pick", desc := "(I)Lcom/example/topiq/topiq/sql/SqlExpression$Operator;" } : Jvm.MethodName) method_3_code (1 : Nat) (Option.some (Jvm.ClassFile.FieldType.object "com/example/topiq/topiq/sql/SqlExpression$Operator"))).before args0 about1 = true := code_word (m := ⟨1, 2⟩) (meth := k1m2) (c := k1c2) (by decide +kernel) rfl rfl rfl (by decide +kernel)
set_option maxRecDepth 65536 in
theorem w_c2 : (Jvm.Cond.code ({ cls := "com/example/topiq/topiq/sql/SqlExpression$Operator", name := "ordering", desc := "()Z" } : Jvm.MethodName) prog_58_method_5_code (1 : Nat) (Option.some Jvm.ClassFile.FieldType.boolean)).before args0 about1 = true := code_word (m := ⟨6, 0⟩) (meth := k6m0) (c := k6c0) (by decide +kernel) rfl rfl rfl (by decide +kernel)
set_option maxRecDepth 65536 in
theorem w_c3 : (Jvm.Cond.code ({ cls := "com/example/topiq/topiq/sql/SqlExpression$Operator", name := "holds", desc := "(I)Z" } : Jvm.MethodName) prog_58_method_6_code (2 : Nat) (Option.some Jvm.ClassFile.FieldType.boolean)).before args0 about1 = true := code_word (m := ⟨6, 1⟩) (meth := k6m1) (c := k6c1) (by decide +kernel) rfl rfl rfl (by decide +kernel)
set_option maxRecDepth 65536 in
theorem w_c4 : (Jvm.Cond.code ({ cls := "java/lang/Enum", name := "ordinal", desc := "()I" } : Jvm.MethodName) jdk_37_method_2_code (1 : Nat) (Option.some Jvm.ClassFile.FieldType.int)).before args0 about1 = true := code_word (m := ⟨5, 0⟩) (meth := k5m0) (c := k5c0) (by decide +kernel) rfl rfl rfl (by decide +kernel)
def codes1 : List Jvm.Cond := [Jvm.Cond.code x code maxLocals ret, Jvm.Cond.code ({ cls := "com/example/topiq/topiq/sql/OperatorOrderingPinLaw", name := "pick", desc := "(I)Lcom/example/topiq/topiq/sql/SqlExpression$Operator;" } : Jvm.MethodName) method_3_code (1 : Nat) (Option.some (Jvm.ClassFile.FieldType.object "com/example/topiq/topiq/sql/SqlExpression$Operator")), Jvm.Cond.code ({ cls := "com/example/topiq/topiq/sql/SqlExpression$Operator", name := "ordering", desc := "()Z" } : Jvm.MethodName) prog_58_method_5_code (1 : Nat) (Option.some Jvm.ClassFile.FieldType.boolean), Jvm.Cond.code ({ cls := "com/example/topiq/topiq/sql/SqlExpression$Operator", name := "holds", desc := "(I)Z" } : Jvm.MethodName) prog_58_method_6_code (2 : Nat) (Option.some Jvm.ClassFile.FieldType.boolean), Jvm.Cond.code ({ cls := "java/lang/Enum", name := "ordinal", desc := "()I" } : Jvm.MethodName) jdk_37_method_2_code (1 : Nat) (Option.some Jvm.ClassFile.FieldType.int)]
set_option maxRecDepth 65536 in
theorem codes_eq : words1.filter isCode = codes1 := rfl
theorem w_codes : ∀ c ∈ words1.filter isCode, c.before args0 about1 = true := by
  rw [codes_eq]
  intro c hc
  simp only [codes1, List.mem_cons, List.not_mem_nil, or_false] at hc
  rcases hc with rfl | rfl | rfl | rfl | rfl
  · exact w_c0
  · exact w_c1
  · exact w_c2
  · exact w_c3
  · exact w_c4
set_option maxRecDepth 65536 in
theorem w_t1 : (words1.take 24).all (fun c => isCode c || c.before args0 about1) = true := by decide +kernel
set_option maxRecDepth 65536 in
theorem w_t2 : (words1.drop 24).all (fun c => isCode c || c.before args0 about1) = true := by decide +kernel
theorem w_tables : (allAtoms (Jvm.Cond.code x code maxLocals ret :: tables_1)).before args0 about1 = true := by
  rw [allAtoms_all]
  show words1.all (fun c => c.before args0 about1) = true
  refine all_split ?_ w_codes
  rw [← List.take_append_drop 24 words1, List.all_append, w_t1, w_t2]
  rfl
set_option maxRecDepth 65536 in
theorem w_case : (Jvm.Cond.and given_1 narrow_1).before args0 about1 = true := by decide +kernel
theorem w_applies : (headSpec (Jvm.Cond.code x code maxLocals ret :: tables_1) room_1).applies x e0.platform about1 = true :=
  (Spec.applies_iff w_frames).mpr ⟨w_running, w_runnable, w_alone, w_named, w_hears, w_ripe, w_room, w_tables⟩
theorem atStart : AtStart classFile x code maxLocals ret World_1 tables_1 room_1 Calls_1 rest_1 Pre_1 launch0 p0 e0 about1 theMethod args0 below0 :=
  ⟨lists_1, trivial, launch0.admits_env _ _ _, launch0.least_env, fairChoices_fair.cas, fairChoices_fair.clock, w_frames, w_args, w_heap, w_applies, trivial, trivial, w_case⟩
end start1
theorem witness_1 : WitnessClaimed_1 := ⟨start1.p0, start1.e0, start1.about1, start1.theMethod, start1.args0, start1.below0, start1.atStart⟩
end Jvm.Pilot.@@N@@
