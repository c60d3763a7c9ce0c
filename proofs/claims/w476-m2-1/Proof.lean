import JvmDerived
import JvmDerived.Pilot.@@N@@Statement
import JvmDerived.Pilot.@@N@@Code
set_option linter.unusedVariables false
set_option linter.unusedSimpArgs false
namespace Jvm.Pilot.@@N@@
open Jvm Jvm.ClassFile Sem Op Lib Jvm.Free Jvm.Stand Jvm.LawKit Jvm.RoadKit Bundle Jvm.Pilot.@@N@@.Jvm.D
/-! own_kit: a walk as 'what is left to do' (Go), contracts (Con), calls and returns in that form -/
/-- from F the run comes to an end of which P holds -/
def Go (tb : Tables) (e : Env) (below : List Frame) (P : Outcome → State → Prop) (F : State) : Prop :=
  ∃ s₂ o, Steps tb e below F s₂ ∧ s₂.status = .running ∧ Ended s₂ below o ∧ P o s₂
theorem Go.step {tb : Tables} {e : Env} {below : List Frame} {P : Outcome → State → Prop} {A B : State} (h : ∀ t, Steps tb e below B t → Steps tb e below A t) (k : Go tb e below P B) : Go tb e below P A := by
  obtain ⟨s₂, o, h1, h2, h3, h4⟩ := k
  exact ⟨s₂, o, h _ h1, h2, h3, h4⟩
theorem Go.via {tb : Tables} {e : Env} {below : List Frame} {P : Outcome → State → Prop} {A B : State} (h : Steps tb e below A B) (k : Go tb e below P B) : Go tb e below P A :=
  Go.step (fun t q => h.trans q) k
/-- how a walk ends: it returns v, Q holds of v, the heap and the places written; at most C cells and S slots were made -/
def EndsAs (s : State) (C S : Nat) (Q : Option Value → Heap → List Loc → Prop) (o : Outcome) (U : State) : Prop :=
  ∃ v L, o = .returned v ∧ Q v U.heap L ∧ FrameEnd s o U L C S
/-- the contract of a body at arguments 'as' and heap h0 -/
abbrev Con (l : Launch) (Z : State) (y : MethodName) (bytes : ByteArray) (mx : Nat) (ret : Option FieldType) (ws : List Jvm.Cond) (rm : Room) (as : Array Value) (h0 : Heap) (Q : Option Value → Heap → List Loc → Prop) : Prop :=
  MetFree l y (head1 (Jvm.Cond.code y bytes mx ret :: ws) rm) (fun a U => a = as ∧ Z.Warmed39 U.vm ∧ U.heap = h0) (fun _ _ _ _ _ => True) (fun _ U o U' => ∃ v L, o = .returned v ∧ Q v U'.heap L ∧ FrameEnd U o U' L rm.cells rm.slots)
theorem Con.of {l : Launch} {Z : State} {y : MethodName} {bytes : ByteArray} {mx : Nat} {ret : Option FieldType} {ws : List Jvm.Cond} {rm : Room} {as : Array Value} {h0 : Heap} {Q : Option Value → Heap → List Loc → Prop} (hpl : plainFor y = true)
    (body : ∀ (p : Program) (e : Env) (s : State) (m : MethodId) (below : List Frame) (meth : Method) (c : Code) (s₁ : State), Z.Warmed39 s.vm → p.tables.exec = Jvm.exec → c.code = bytes → c.maxLocals = mx → s.vm.findClass y.cls = some m.cls → meth.sig.returnType = ret → meth.locks = false → meth.name = y.name →
      Stand p l e rm s m as below meth c s₁ [] 0 0 → s₁.heap = h0 → Go p.tables e below (EndsAs s rm.cells rm.slots Q) (s₁.setTop (entryFrame m as mx))) :
    Con l Z y bytes mx ret ws rm as h0 Q := by
  refine MetFree.of_bodySF hpl hisR ?_
  intro p e s m args below meth c s₁ Bd hml0 hP hK
  obtain ⟨rfl, hZ, hh⟩ := hP
  exact body p e s m below meth c s₁ hZ Bd.exec Bd.bytes hml0 (findClass_of_methodNamed Bd.named) Bd.returns Bd.notSynchronized (name_of_methodNamed Bd.named Bd.method).1 (Stand.of_body Bd) (by rw [← hh, Bd.state]; rfl)
section Kit
variable {p : Program} {l : Launch} {e : Env} {R : Room} {s : State} {m : MethodId} {args : Array Value} {below : List Frame} {meth : Method} {c : Code} {T : State} {locs : List Loc} {cells slots : Nat} {Z : State} {a0 : Array Value} {h : Heap}
theorem leafO (X : Stand p l e R s m args below meth c T locs cells slots) (hx : p.tables.exec = Jvm.exec) {t : FieldType} (hret : meth.sig.returnType = some t) (hlk : meth.locks = false) {pc : Nat} {Ls : Array Slot} {w : Value} {i : Instr} {rest : List Value} (hn : narrow t w = w)
    (hi : (i = .ireturn ∧ (t = .int ∨ t = .boolean ∨ t = .byte ∨ t = .char ∨ t = .short) ∧ ∃ z, w = .int z) ∨ (i = .lreturn ∧ t = .long ∧ ∃ z, w = .long z) ∨ (i = .dreturn ∧ t = .double ∧ ∃ z, w = .double z) ∨ (i = .freturn ∧ t = .float ∧ ∃ z, w = .float z) ∨ (i = .areturn ∧ t.isReference = true ∧ w.isRef = true))
    (hd : decode c.code pc = .ok (i, 1)) {Q : Option Value → Heap → List Loc → Prop} {C S : Nat} (hQ : Q (some w) T.heap locs) (hC : cells ≤ C) (hS : slots ≤ S) :
    Go p.tables e below (EndsAs s C S Q) (T.setTop (mkF m pc Ls (w :: rest))) := by
  obtain ⟨fs, hr, hrun, hended, hW, hsame⟩ := X.leave (v := some w) (fun h => by rw [hret] at h; cases h) hlk
  exact ⟨_, _, retOut X hx hret hn hi hd hr, hrun, hended, _, _, rfl, hQ, ⟨_, rfl⟩, hW, hsame.mono hC hS⟩
theorem leafI (X : Stand p l e R s m args below meth c T locs cells slots) (hx : p.tables.exec = Jvm.exec) (hret : meth.sig.returnType = some .int) (hlk : meth.locks = false) {pc : Nat} {Ls : Array Slot} {z : Int32} {rest : List Value}
    (hd : decode c.code pc = .ok (.ireturn, 1)) {Q : Option Value → Heap → List Loc → Prop} {C S : Nat} (hQ : Q (some (.int z)) T.heap locs) (hC : cells ≤ C) (hS : slots ≤ S) :
    Go p.tables e below (EndsAs s C S Q) (T.setTop (mkF m pc Ls (.int z :: rest))) :=
  leafO X hx hret hlk rfl (Or.inl ⟨rfl, Or.inl rfl, _, rfl⟩) hd hQ hC hS
theorem leafJ (X : Stand p l e R s m args below meth c T locs cells slots) (hx : p.tables.exec = Jvm.exec) (hret : meth.sig.returnType = some .long) (hlk : meth.locks = false) {pc : Nat} {Ls : Array Slot} {z : Int64} {rest : List Value}
    (hd : decode c.code pc = .ok (.lreturn, 1)) {Q : Option Value → Heap → List Loc → Prop} {C S : Nat} (hQ : Q (some (.long z)) T.heap locs) (hC : cells ≤ C) (hS : slots ≤ S) :
    Go p.tables e below (EndsAs s C S Q) (T.setTop (mkF m pc Ls (.long z :: rest))) :=
  leafO X hx hret hlk rfl (Or.inr (Or.inl ⟨rfl, rfl, _, rfl⟩)) hd hQ hC hS
theorem leafA (X : Stand p l e R s m args below meth c T locs cells slots) (hx : p.tables.exec = Jvm.exec) {t : FieldType} (hret : meth.sig.returnType = some t) (ht : t.isReference = true) (hlk : meth.locks = false) {pc : Nat} {Ls : Array Slot} {w : Value} {rest : List Value} (hw : w.isRef = true) (hn : narrow t w = w)
    (hd : decode c.code pc = .ok (.areturn, 1)) {Q : Option Value → Heap → List Loc → Prop} {C S : Nat} (hQ : Q (some w) T.heap locs) (hC : cells ≤ C) (hS : slots ≤ S) :
    Go p.tables e below (EndsAs s C S Q) (T.setTop (mkF m pc Ls (w :: rest))) :=
  leafO X hx hret hlk hn (Or.inr (Or.inr (Or.inr (Or.inr ⟨rfl, ht, hw⟩)))) hd hQ hC hS
theorem leafN (X : Stand p l e R s m args below meth c T locs cells slots) (hx : p.tables.exec = Jvm.exec) {t : FieldType} (hret : meth.sig.returnType = some t) (ht : t = .boolean ∨ t = .byte ∨ t = .char ∨ t = .short) (hlk : meth.locks = false) {pc : Nat} {Ls : Array Slot} {z w : Int32} {rest : List Value} (hw : nar t z = w)
    (hd : decode c.code pc = .ok (.ireturn, 1)) {Q : Option Value → Heap → List Loc → Prop} {C S : Nat} (hQ : Q (some (.int w)) T.heap locs) (hC : cells ≤ C) (hS : slots ≤ S) :
    Go p.tables e below (EndsAs s C S Q) (T.setTop (mkF m pc Ls (.int z :: rest))) := by
  subst hw
  obtain ⟨fs, hr, hrun, hended, hW, hsame⟩ := X.leave (v := some (.int (nar t z))) (fun h => by rw [hret] at h; cases h) hlk
  exact ⟨_, _, retN X hx hret ht hd hr, hrun, hended, _, _, rfl, hQ, ⟨_, rfl⟩, hW, hsame.mono hC hS⟩
theorem leafV (X : Stand p l e R s m args below meth c T locs cells slots) (hx : p.tables.exec = Jvm.exec) (hret : meth.sig.returnType = none) (hlk : meth.locks = false) {pc : Nat} {Ls : Array Slot}
    (hd : decode c.code pc = .ok (.return_, 1)) {Q : Option Value → Heap → List Loc → Prop} {C S : Nat} (hQ : Q none T.heap locs) (hC : cells ≤ C) (hS : slots ≤ S) :
    Go p.tables e below (EndsAs s C S Q) (T.setTop (mkF m pc Ls [])) := by
  obtain ⟨fs, hr, hrun, hended, hW, hsame⟩ := X.leave (v := none) (fun _ => rfl) hlk
  exact ⟨_, _, X.returnOut hx hret hd hr, hrun, hended, _, _, rfl, hQ, ⟨_, rfl⟩, hW, hsame.mono hC hS⟩
theorem goS (X : Stand p l e R s m args below meth c T locs cells slots) (hx : p.tables.exec = Jvm.exec) (hZ : Z.Warmed39 s.vm) {own : String} {index : Nat} {y : MethodName} {bytes : ByteArray} {maxL : Nat} {ret : Option FieldType} (hown : s.vm.findClass own = some m.cls)
    (w1 : (Jvm.Cond.methodLink own index y).before a0 Z = true) (w2 : (Jvm.Cond.static y).before a0 Z = true) (w3 : (Jvm.Cond.initialized y.cls).before a0 Z = true) (w4 : (Jvm.Cond.code y bytes maxL ret).before a0 Z = true)
    (hy : y.cls ≠ "java/lang/invoke/MethodHandle" ∧ y.cls ≠ "java/lang/invoke/VarHandle") {rm : Room} {as : Array Value} {Qc : Option Value → Heap → List Loc → Prop} (hM : Con l Z y bytes maxL ret [] rm as h Qc) (eT : T.heap = h)
    {pc : Nat} {Ls : Array Slot} {st : List Value} (hsize : Ls.size = c.maxLocals) (argsL rest : List Value) (has : argsL.toArray = as) {ps : List FieldType} {r : Option FieldType} (hpd : parseMethodDescriptor y.desc = some ⟨ps, r⟩) (hlen : argsL.length = ps.length) (hst : st = argsL.reverse ++ rest)
    (W : Nat) (hW : (rest.map fun v => v.category).sum = W) (hd : decode c.code pc = .ok (.invokestatic index, 3)) (hf : rm.frames + 1 ≤ R.frames) (hl : W + (maxL + 11) + rm.locals ≤ R.locals) (hc : cells + rm.cells ≤ R.cells) (hs : slots + rm.slots ≤ R.slots) {P : Outcome → State → Prop}
    (k : ∀ (T' : State) (L : List Loc) (v : Option Value), Qc v T'.heap L → Stand p l e R s m args below meth c T' (locs ++ L) (cells + rm.cells) (slots + rm.slots) → Go p.tables e below P (T'.setTop (mkF m (pc + 3) Ls (v.toList ++ rest)))) :
    Go p.tables e below P (T.setTop (mkF m pc Ls st)) := by
  subst hst
  obtain ⟨v, _, ⟨T', L', k', n'⟩, -, X', ⟨L, hQ, q1, q2, q3⟩, st⟩ := Jvm.LawKit.callS X hx (y := y) hown (mvT hZ w1) (mvT hZ w2) (mvT hZ w3) (mvT hZ w4) hy (backOf (W := W) hM hZ w4 w3 hf hl) (g := mkF m pc Ls (argsL.reverse ++ rest)) rfl hsize (argsL := argsL) (rest := rest) (lenOf hpd hlen) rfl (by show 2 * 0 + _ ≤ _; omega) hd (fun _ _ => ⟨has, eT, hc, hs⟩)
  dsimp only [Pt.U, Pt.locs, Pt.cells, Pt.slots] at X' q1 q2 q3 st hQ
  subst q1 q2 q3
  exact Go.step st (k T' L v hQ X')
theorem goI (X : Stand p l e R s m args below meth c T locs cells slots) (hx : p.tables.exec = Jvm.exec) (hZ : Z.Warmed39 s.vm) {own : String} {index : Nat} {y : MethodName} {bytes : ByteArray} {maxL : Nat} (hy1 : y.name = "<init>") (hown : s.vm.findClass own = some m.cls)
    (w1 : (Jvm.Cond.methodLink own index y).before a0 Z = true) (w2 : (Jvm.Cond.instanceMethod y).before a0 Z = true) (w3 : (Jvm.Cond.initialized y.cls).before a0 Z = true) (w4 : (Jvm.Cond.code y bytes maxL none).before a0 Z = true)
    (hy : y.cls ≠ "java/lang/invoke/MethodHandle" ∧ y.cls ≠ "java/lang/invoke/VarHandle") {rm : Room} {as : Array Value} {Qc : Option Value → Heap → List Loc → Prop} (hM : Con l Z y bytes maxL none [] rm as h Qc) (eT : T.heap = h)
    {pc : Nat} {Ls : Array Slot} {st : List Value} (hsize : Ls.size = c.maxLocals) (a : Addr) (argsL rest : List Value) (has : (Value.ref a :: argsL).toArray = as) {ps : List FieldType} {r : Option FieldType} (hpd : parseMethodDescriptor y.desc = some ⟨ps, r⟩) (hlen : argsL.length = ps.length) (hst : st = argsL.reverse ++ .ref a :: rest)
    (W : Nat) (hW : (rest.map fun v => v.category).sum = W) (hd : decode c.code pc = .ok (.invokespecial index, 3)) (hf : rm.frames + 1 ≤ R.frames) (hl : W + (maxL + 11) + rm.locals ≤ R.locals) (hc : cells + rm.cells ≤ R.cells) (hs : slots + rm.slots ≤ R.slots) {P : Outcome → State → Prop}
    (k : ∀ (T' : State) (L : List Loc) (v : Option Value), Qc v T'.heap L → Stand p l e R s m args below meth c T' (locs ++ L) (cells + rm.cells) (slots + rm.slots) → Go p.tables e below P (T'.setTop (mkF m (pc + 3) Ls (v.toList ++ rest)))) :
    Go p.tables e below P (T.setTop (mkF m pc Ls st)) := by
  subst hst
  obtain ⟨v, _, ⟨T', L', k', n'⟩, -, X', ⟨L, hQ, q1, q2, q3⟩, st⟩ := X.specialBack hx (y := y) hy1 hown (mvT hZ w1) (mvT hZ w2) (mvT hZ w4) hy (backOf (W := W) hM hZ w4 w3 hf hl) (g := mkF m pc Ls (argsL.reverse ++ .ref a :: rest)) rfl hsize (Steps.refl _) (a := a) (argsL := argsL) (rest := rest) (lenOf hpd hlen) rfl (by show 2 * 0 + _ ≤ _; omega) hd (fun _ _ => ⟨has, eT, hc, hs⟩)
  dsimp only [Pt.U, Pt.locs, Pt.cells, Pt.slots] at X' q1 q2 q3 st hQ
  subst q1 q2 q3
  exact Go.via st (k T' L v hQ X')
theorem goV (X : Stand p l e R s m args below meth c T locs cells slots) (hx : p.tables.exec = Jvm.exec) (hZ : Z.Warmed39 s.vm) {own C : String} {index : Nat} {y z : MethodName} {bytes : ByteArray} {maxL : Nat} {ret : Option FieldType} (hown : s.vm.findClass own = some m.cls)
    (w1 : (Jvm.Cond.methodLink own index y).before a0 Z = true) (w2 : (Jvm.Cond.declares y).before a0 Z = true) (hnf : NotFace s y) (w5 : (Jvm.Cond.selects C y z).before a0 Z = true) (w6 : (Jvm.Cond.instanceMethod z).before a0 Z = true) (w3 : (Jvm.Cond.initialized z.cls).before a0 Z = true) (w4 : (Jvm.Cond.code z bytes maxL ret).before a0 Z = true)
    (hy : y.cls ≠ "java/lang/invoke/MethodHandle" ∧ y.cls ≠ "java/lang/invoke/VarHandle") {rm : Room} {as : Array Value} {Qc : Option Value → Heap → List Loc → Prop} (hM : Con l Z z bytes maxL ret [] rm as h Qc) (eT : T.heap = h)
    {a : Addr} (E : Exa Z h a C) {pc : Nat} {Ls : Array Slot} {st : List Value} (hsize : Ls.size = c.maxLocals) (argsL rest : List Value) (has : (Value.ref a :: argsL).toArray = as) {ps : List FieldType} {r : Option FieldType} (hpd : parseMethodDescriptor y.desc = some ⟨ps, r⟩) (hlen : argsL.length = ps.length) (hst : st = argsL.reverse ++ .ref a :: rest)
    (W : Nat) (hW : (rest.map fun v => v.category).sum = W) (hd : decode c.code pc = .ok (.invokevirtual index, 3)) (hf : rm.frames + 1 ≤ R.frames) (hl : W + (maxL + 11) + rm.locals ≤ R.locals) (hc : cells + rm.cells ≤ R.cells) (hs : slots + rm.slots ≤ R.slots) {P : Outcome → State → Prop}
    (k : ∀ (T' : State) (L : List Loc) (v : Option Value), Qc v T'.heap L → Stand p l e R s m args below meth c T' (locs ++ L) (cells + rm.cells) (slots + rm.slots) → Go p.tables e below P (T'.setTop (mkF m (pc + 3) Ls (v.toList ++ rest)))) :
    Go p.tables e below P (T.setTop (mkF m pc Ls st)) := by
  subst hst
  obtain ⟨cq, kq, qa, qb, qc⟩ := isOf hZ eT E
  obtain ⟨v, _, ⟨T', L', k', n'⟩, -, X', ⟨L, hQ, q1, q2, q3⟩, st⟩ := X.virtualBack hx (y := y) (z := z) hown (mvT hZ w1) (mvT hZ w2) hnf (mvT hZ w5) (mvT hZ w6) hy (backOf (W := W) hM hZ w4 w3 hf hl) qa qc (g := mkF m pc Ls (argsL.reverse ++ .ref a :: rest)) rfl hsize (Steps.refl _) (argsL := argsL) (rest := rest) (lenOf hpd hlen) rfl (by show 2 * 0 + _ ≤ _; omega) hd (fun _ _ => ⟨has, eT, hc, hs⟩)
  dsimp only [Pt.U, Pt.locs, Pt.cells, Pt.slots] at X' q1 q2 q3 st hQ
  subst q1 q2 q3
  exact Go.via st (k T' L v hQ X')
end Kit

/-! halves: doubles whose double is a whole number -/
section halves
open Jvm.FP.Core
def own_dbl : Datum → Datum
  | .fin s c q => .fin s c (q + 1)
  | d => d
def Half (j : Int) (d : Datum) : Prop := Whole j (own_dbl d)
theorem half_fin {j : Int} {d : Datum} (h : Half j d) : ∃ s c q, d = .fin s c q := by
  cases d with
  | nan => exact h.elim
  | inf => exact h.elim
  | fin s c q => exact ⟨s, c, q, rfl⟩
theorem whole_fin {j : Int} {d : Datum} (h : Whole j d) : ∃ s c q, d = .fin s c q := by
  cases d with
  | nan => exact h.elim
  | inf => exact h.elim
  | fin s c q => exact ⟨s, c, q, rfl⟩
theorem half_product {i j : Int} {x y : Datum} (hx : Whole i x) (hy : Half j y) : Half (i * j) (exactProduct x y) := by
  obtain ⟨s, c, q, rfl⟩ := whole_fin hx
  obtain ⟨t, d, r, rfl⟩ := half_fin hy
  have h := whole_product hx hy
  show Whole (i * j) (.fin (s != t) (c * d) (q + r + 1))
  rw [Int.add_assoc]; exact h
theorem half_sum {i j : Int} {x y : Datum} (hx : Half i x) (hy : Half j y) : Half (i + j) (exactSum x y) := by
  obtain ⟨s, c, q, rfl⟩ := half_fin hx
  obtain ⟨t, d, r, rfl⟩ := half_fin hy
  have h := whole_sum hx hy
  have e1 : min (q + 1) (r + 1) = min q r + 1 := by omega
  have e2 : q + 1 - (min q r + 1) = q - min q r := by omega
  have e3 : r + 1 - (min q r + 1) = r - min q r := by omega
  have h2 : own_dbl (exactSum (.fin s c q) (.fin t d r)) = exactSum (own_dbl (.fin s c q)) (own_dbl (.fin t d r)) := by
    simp only [own_dbl, exactSum, sumUnits, inUnits, e1, e2, e3]
  unfold Half; rw [h2]; exact h
theorem half_whole {j : Int} {x : Datum} (hx : Whole j x) : Half (2 * j) x := by
  obtain ⟨s, c, q, rfl⟩ := whole_fin hx
  have h := whole_product (i := 2) (x := .fin false 1 1) (by unfold Whole; decide) hx
  show Whole (2 * j) (.fin s c (q + 1))
  have e : exactProduct (.fin false 1 1) (.fin s c q) = .fin s c (q + 1) := by
    show Datum.fin (false != s) (1 * c) (1 + q) = _
    rw [Nat.one_mul, Int.add_comm]; cases s <;> rfl
  rw [← e]; exact h
theorem half_negate {j : Int} {x : Datum} (hx : Half j x) : Half (-j) (negate x) := by
  obtain ⟨s, c, q, rfl⟩ := half_fin hx
  exact whole_negate hx
theorem half_twice {j : Int} {x : Datum} (hx : Half j x) : Whole j (exactProduct x (.fin false (2 ^ 52) (-51))) := by
  obtain ⟨s, c, q, rfl⟩ := half_fin hx
  have h := whole_product (j := 1) (y := .fin false (2 ^ 52) (-52)) hx (by unfold Whole; decide)
  rw [Int.mul_one] at h
  have e : exactProduct (own_dbl (.fin s c q)) (.fin false (2 ^ 52) (-52)) = exactProduct (.fin s c q) (.fin false (2 ^ 52) (-51)) := by
    show Datum.fin _ _ (q + 1 + -52) = Datum.fin _ _ (q + -51)
    rw [show q + 1 + -52 = q + -51 by omega]
  rw [← e]; exact h
theorem half_round {j : Int} (hj : j.natAbs < 2 ^ 53) {d : Datum} (h : Half j d) : Half j (round b64 d) := by
  obtain ⟨s, c, q, rfl⟩ := half_fin h
  have h1 : c * 2 ^ (q + 1).toNat = j.natAbs * 2 ^ (-(q + 1)).toNat := whole_natAbs h
  have e1 : round b64 (.fin s c q) = round b64 (.fin s j.natAbs (-1)) := by
    refine roundRatio_congr (by decide) (by decide) ?_
    rw [Nat.mul_one, Nat.mul_one, show (q - -1).toNat = (q + 1).toNat by omega, show (-1 - q).toNat = (-(q + 1)).toNat by omega]; exact h1
  obtain ⟨c', q', e2, e3⟩ := round_exact good_b64 s (c := j.natAbs) (q := -1) hj (by decide) (by decide)
  have hf := round_fits good_b64 (.fin s j.natAbs (-1))
  rw [e2] at hf
  have hq : (-1074 : Int) ≤ q' := hf.2.1
  rw [e1, e2]
  show signed s (c' * 2 ^ (q' + 1).toNat) = j * ((2 ^ (-(q' + 1)).toNat : Nat) : Int)
  have e4 : c' * 2 ^ (q' + 1074).toNat = j.natAbs * 2 ^ 1073 := e3
  have e5 : c' * 2 ^ (q' + 1).toNat = j.natAbs * 2 ^ (-(q' + 1)).toNat := by
    refine Nat.eq_of_mul_eq_mul_right (Nat.two_pow_pos 1073) ?_
    rw [Nat.mul_assoc, ← Nat.pow_add, show (q' + 1).toNat + 1073 = (q' + 1074).toNat + (-(q' + 1)).toNat by omega, Nat.pow_add, ← Nat.mul_assoc, e4]
    exact Nat.mul_right_comm _ _ _
  rw [e5, signed_mul]; congr 1
  by_cases h0 : j = 0
  · rw [h0]; exact signed_zero s
  · rw [whole_sign h h0]; unfold signed; by_cases hn : j < 0 <;> simp [hn] <;> omega
theorem half_over {i : Int} (hi : i.natAbs < 2 ^ 53) {x : Datum} (h : Whole i x) : Half i (quotient b64 x (.fin false (2 ^ 52) (-51))) := by
  obtain ⟨s, c, q, rfl⟩ := whole_fin h
  have e : quotient b64 (.fin s c q) (.fin false (2 ^ 52) (-51)) = round b64 (.fin s c (q - 1)) := by
    show (if (2 ^ 52 : Nat) = 0 then (if c = 0 then Datum.nan else .inf (s != false)) else roundRatio b64 (s != false) c (2 ^ 52) (q - -51)) = roundRatio b64 s c 1 (q - 1)
    rw [if_neg (by decide), show (s != false) = s by cases s <;> rfl]
    refine roundRatio_congr (Nat.two_pow_pos 52) (by decide) ?_
    rw [show (q - -51 - (q - 1)).toNat = 52 by omega, show (q - 1 - (q - -51)).toNat = 0 by omega, Nat.mul_one, Nat.pow_zero, Nat.mul_one]
  rw [e]; refine half_round hi ?_
  show Whole i (.fin s c (q - 1 + 1))
  rw [Int.sub_add_cancel]; exact h
theorem own_no {a : UInt64} (h : ∃ s c q, val64 a = .fin s c q) : Jvm.Free.Fl.NoNaN64 a := by
  obtain ⟨s, c, q, e⟩ := h
  exact Jvm.Free.Fl.noNaN64_no.mpr ((notNaN_iff a).mpr (by rw [e]; exact fun q => by cases q))
def HInt (j : Int) (a : UInt64) : Prop := Half j (val64 a)
theorem HInt.no {j : Int} {a : UInt64} (h : HInt j a) : Jvm.Free.Fl.NoNaN64 a := own_no (half_fin h)
theorem dint_no {j : Int} {a : UInt64} (h : DInt j a) : Jvm.Free.Fl.NoNaN64 a := own_no (whole_fin h)
theorem own_two : val64 (4611686018427387904 : UInt64) = .fin false (2 ^ 52) (-51) := by decide +kernel
theorem own_m45 : DInt (-45) (13854902041140264960 : UInt64) := by
  have e : val64 (13854902041140264960 : UInt64) = .fin true (45 * 2 ^ 47) (-47) := by decide +kernel
  unfold DInt; rw [e]; unfold Whole; decide
theorem own_over {i : Int} {a : UInt64} (hi : i.natAbs < 2 ^ 53) (h : DInt i a) : HInt i (FP.ddiv a (4611686018427387904 : UInt64)) := by
  show Half i (val64 (Jvm.FP.Core.ddiv a (4611686018427387904 : UInt64)))
  rw [val64_ddiv, own_two]; exact half_over hi h
theorem own_times {i j : Int} {a b : UInt64} (ha : DInt i a) (hb : HInt j b) (h : (i * j).natAbs < 2 ^ 53) : HInt (i * j) (FP.dmul a b) := by
  show Half (i * j) (val64 (Jvm.FP.Core.dmul a b))
  rw [val64_dmul]; exact half_round h (half_product ha hb)
theorem own_plus {i j : Int} {a b : UInt64} (ha : HInt i a) (hb : DInt j b) (h : (i + 2 * j).natAbs < 2 ^ 53) : HInt (i + 2 * j) (FP.dadd a b) := by
  show Half _ (val64 (Jvm.FP.Core.dadd a b))
  rw [val64_dadd]; exact half_round h (half_sum ha (half_whole hb))
theorem own_minus {i j : Int} {a b : UInt64} (ha : HInt i a) (hb : DInt j b) (h : (i - 2 * j).natAbs < 2 ^ 53) : HInt (i - 2 * j) (FP.dsub a b) := by
  show Half _ (val64 (Jvm.FP.Core.dsub a b))
  rw [val64_dsub]; exact half_round h (half_sum ha (half_negate (half_whole hb)))
theorem own_twice {j : Int} {a : UInt64} (ha : HInt j a) (h : j.natAbs ≤ 2 ^ 53) : DInt j (FP.dmul a (4611686018427387904 : UInt64)) := by
  show Whole _ (val64 (Jvm.FP.Core.dmul a _))
  rw [val64_dmul, own_two]; exact whole_round good_b64 wide_b64 h (half_twice ha)
theorem own_cmp {j : Int} {a b : UInt64} (ha : DInt j a) (hb : DInt j b) : cmpValue (FP.dcmp a b) .l = 0 := by
  have e : FP.dcmp a b = some (compare j j) := dcmp_int ha hb
  rw [e, compare_self_int]; rfl

def Small (x : Int32) : Prop := -16777216 ≤ x.toInt ∧ x.toInt ≤ 16777216
theorem own_small (x : Int32) : Small (x >>> ((7 : Int32) &&& 31)) := by
  have e : (x >>> ((7 : Int32) &&& 31)).toInt = x.toInt / (2 ^ 7 : Nat) := c_ishr x 7 7 rfl
  have h1 := x.toInt_lt
  have h2 := x.le_toInt
  unfold Small; rw [e]; omega
theorem own_k34 {x : Int32} (h : Small x) : ((34 : Int32) * x).toInt = 34 * x.toInt := by
  have e := c_imul (34 : Int32) x
  rw [show (34 : Int32).toInt = 34 from rfl] at e
  have h1 := ((34 : Int32) * x).toInt_lt
  have h2 := ((34 : Int32) * x).le_toInt
  unfold Small at h; omega
theorem own_k32 {x : Int32} (h : Small x) : ((32 : Int32) * x).toInt = 32 * x.toInt := by
  have e := c_imul (32 : Int32) x
  rw [show (32 : Int32).toInt = 32 from rfl] at e
  have h1 := ((32 : Int32) * x).toInt_lt
  have h2 := ((32 : Int32) * x).le_toInt
  unfold Small at h; omega
theorem own_k93 {x : Int32} (h : Small x) : ((93 : Int32) * x).toInt = 93 * x.toInt := by
  have e := c_imul (93 : Int32) x
  rw [show (93 : Int32).toInt = 93 from rfl] at e
  have h1 := ((93 : Int32) * x).toInt_lt
  have h2 := ((93 : Int32) * x).le_toInt
  unfold Small at h; omega
theorem own_k79 {x : Int32} (h : Small x) : ((79 : Int32) * x).toInt = 79 * x.toInt := by
  have e := c_imul (79 : Int32) x
  rw [show (79 : Int32).toInt = 79 from rfl] at e
  have h1 := ((79 : Int32) * x).toInt_lt
  have h2 := ((79 : Int32) * x).le_toInt
  unfold Small at h; omega
def v1 (d : UInt64) : UInt64 := FP.dmul (13854902041140264960 : UInt64) d
def v2 (d : UInt64) (a : Int32) : UInt64 := FP.dadd (v1 d) (FP.i2d ((34 : Int32) * a))
def v3 (d : UInt64) (a b : Int32) : UInt64 := FP.dsub (v2 d a) (FP.i2d ((32 : Int32) * b))
def v4 (d : UInt64) (a b c : Int32) : UInt64 := FP.dsub (v3 d a b) (FP.i2d ((93 : Int32) * c))
def v5 (d : UInt64) (a b c e : Int32) : UInt64 := FP.dsub (v4 d a b c) (FP.i2d ((79 : Int32) * e))
def v6 (d : UInt64) (a b c e f : Int32) : UInt64 := FP.dsub (v5 d a b c e) (FP.i2d ((34 : Int32) * f))
theorem own_vals (h a b c e f : Int32) (d : UInt64) (hd : HInt h.toInt d) (b0 : Small h) (b1 : Small a) (b2 : Small b) (b3 : Small c) (b4 : Small e) (b5 : Small f) :
    HInt (-45 * h.toInt) (v1 d) ∧ HInt (-45 * h.toInt + 68 * a.toInt) (v2 d a) ∧ HInt (-45 * h.toInt + 68 * a.toInt - 64 * b.toInt) (v3 d a b) ∧ HInt (-45 * h.toInt + 68 * a.toInt - 64 * b.toInt - 186 * c.toInt) (v4 d a b c) ∧ HInt (-45 * h.toInt + 68 * a.toInt - 64 * b.toInt - 186 * c.toInt - 158 * e.toInt) (v5 d a b c e) ∧ HInt (-45 * h.toInt + 68 * a.toInt - 64 * b.toInt - 186 * c.toInt - 158 * e.toInt - 68 * f.toInt) (v6 d a b c e f) := by
  have k1 := own_k34 b1
  have k2 := own_k32 b2
  have k3 := own_k93 b3
  have k4 := own_k79 b4
  have k5 := own_k34 b5
  unfold Small at b0 b1 b2 b3 b4 b5
  have h1 : HInt (-45 * h.toInt) (v1 d) := own_times own_m45 hd (by omega)
  have h2 : HInt (-45 * h.toInt + 68 * a.toInt) (v2 d a) := by
    have q := own_plus h1 (i2d_int ((34 : Int32) * a)) (by rw [k1]; omega)
    rw [k1, ← Int.mul_assoc] at q; exact q
  have h3 : HInt (-45 * h.toInt + 68 * a.toInt - 64 * b.toInt) (v3 d a b) := by
    have q := own_minus h2 (i2d_int ((32 : Int32) * b)) (by rw [k2]; omega)
    rw [k2, ← Int.mul_assoc] at q; exact q
  have h4 : HInt (-45 * h.toInt + 68 * a.toInt - 64 * b.toInt - 186 * c.toInt) (v4 d a b c) := by
    have q := own_minus h3 (i2d_int ((93 : Int32) * c)) (by rw [k3]; omega)
    rw [k3, ← Int.mul_assoc] at q; exact q
  have h5 : HInt (-45 * h.toInt + 68 * a.toInt - 64 * b.toInt - 186 * c.toInt - 158 * e.toInt) (v5 d a b c e) := by
    have q := own_minus h4 (i2d_int ((79 : Int32) * e)) (by rw [k4]; omega)
    rw [k4, ← Int.mul_assoc] at q; exact q
  have h6 : HInt (-45 * h.toInt + 68 * a.toInt - 64 * b.toInt - 186 * c.toInt - 158 * e.toInt - 68 * f.toInt) (v6 d a b c e f) := by
    have q := own_minus h5 (i2d_int ((34 : Int32) * f)) (by rw [k5]; omega)
    rw [k5, ← Int.mul_assoc] at q; exact q
  exact ⟨h1, h2, h3, h4, h5, h6⟩
theorem own_km (k : Int64) (n : Int) (hk : k.toInt = n) (hn : -200 ≤ n ∧ n ≤ 200) {x : Int32} (h : Small x) : (k * x.toInt64).toInt = n * x.toInt := by
  have e := c_lmul k x.toInt64
  rw [hk, c_i2l] at e
  have h1 := (k * x.toInt64).toInt_lt
  have h2 := (k * x.toInt64).le_toInt
  unfold Small at h
  have h3 : (n * x.toInt).natAbs ≤ 200 * 16777216 := by
    rw [Int.natAbs_mul]; exact Nat.mul_le_mul (by omega) (by omega)
  generalize n * x.toInt = z at *
  omega
theorem own_long (h a b c e f : Int32) (b0 : Small h) (b1 : Small a) (b2 : Small b) (b3 : Small c) (b4 : Small e) (b5 : Small f) :
    ((((((((-45 : Int64) * (h.toInt64)) + ((68 : Int64) * (a.toInt64))) - ((64 : Int64) * (b.toInt64))) - ((186 : Int64) * (c.toInt64))) - ((158 : Int64) * (e.toInt64))) - ((68 : Int64) * (f.toInt64)))).toInt = -45 * h.toInt + 68 * a.toInt - 64 * b.toInt - 186 * c.toInt - 158 * e.toInt - 68 * f.toInt := by
  have k0 := own_km (-45) (-45) rfl (by decide) b0
  have k1 := own_km 68 68 rfl (by decide) b1
  have k2 := own_km 64 64 rfl (by decide) b2
  have k3 := own_km 186 186 rfl (by decide) b3
  have k4 := own_km 158 158 rfl (by decide) b4
  have k5 := own_km 68 68 rfl (by decide) b5
  generalize (-45 : Int64) * (h.toInt64) = z0 at *
  generalize (68 : Int64) * (a.toInt64) = z1 at *
  generalize (64 : Int64) * (b.toInt64) = z2 at *
  generalize (186 : Int64) * (c.toInt64) = z3 at *
  generalize (158 : Int64) * (e.toInt64) = z4 at *
  generalize (68 : Int64) * (f.toInt64) = z5 at *
  have e1 := c_ladd z0 z1
  have e2 := c_lsub (z0 + z1) z2
  have e3 := c_lsub (z0 + z1 - z2) z3
  have e4 := c_lsub (z0 + z1 - z2 - z3) z4
  have e5 := c_lsub (z0 + z1 - z2 - z3 - z4) z5
  have l1 := (z0 + z1).toInt_lt
  have m1 := (z0 + z1).le_toInt
  have l2 := (z0 + z1 - z2).toInt_lt
  have m2 := (z0 + z1 - z2).le_toInt
  have l3 := (z0 + z1 - z2 - z3).toInt_lt
  have m3 := (z0 + z1 - z2 - z3).le_toInt
  have l4 := (z0 + z1 - z2 - z3 - z4).toInt_lt
  have m4 := (z0 + z1 - z2 - z3 - z4).le_toInt
  have l5 := (z0 + z1 - z2 - z3 - z4 - z5).toInt_lt
  have m5 := (z0 + z1 - z2 - z3 - z4 - z5).le_toInt
  unfold Small at b0 b1 b2 b3 b4 b5
  omega
theorem own_end (h a b c e f : Int32) (d : UInt64) (hd : HInt h.toInt d) (b0 : Small h) (b1 : Small a) (b2 : Small b) (b3 : Small c) (b4 : Small e) (b5 : Small f) :
    Jvm.Free.Fl.NoNaN64 (FP.dmul (v6 d a b c e f) (4611686018427387904 : UInt64)) ∧ cmpValue (FP.dcmp (FP.dmul (v6 d a b c e f) (4611686018427387904 : UInt64)) (FP.l2d ((((((((-45 : Int64) * (h.toInt64)) + ((68 : Int64) * (a.toInt64))) - ((64 : Int64) * (b.toInt64))) - ((186 : Int64) * (c.toInt64))) - ((158 : Int64) * (e.toInt64))) - ((68 : Int64) * (f.toInt64)))))) .l = 0 := by
  have h6 := (own_vals h a b c e f d hd b0 b1 b2 b3 b4 b5).2.2.2.2.2
  have hl := own_long h a b c e f b0 b1 b2 b3 b4 b5
  unfold Small at b0 b1 b2 b3 b4 b5
  have h7 := own_twice h6 (by omega)
  refine ⟨dint_no h7, own_cmp h7 ?_⟩
  have h8 := l2d_int (a := ((((((((-45 : Int64) * (h.toInt64)) + ((68 : Int64) * (a.toInt64))) - ((64 : Int64) * (b.toInt64))) - ((186 : Int64) * (c.toInt64))) - ((158 : Int64) * (e.toInt64))) - ((68 : Int64) * (f.toInt64))))) (by rw [hl]; omega)
  rw [hl] at h8; exact h8
end halves

theorem d2_0 : decode jdk_30_method_1_code 0 = .ok (.aload_n 0, 1) := by decide +kernel
theorem d2_1 : decode jdk_30_method_1_code 1 = .ok (.invokespecial 1, 3) := by decide +kernel
theorem d2_4 : decode jdk_30_method_1_code 4 = .ok (.return_, 1) := by decide +kernel
theorem pn2 : plainFor (⟨"java/lang/Record", "<init>", "()V"⟩ : MethodName) = true := plainFor_of_name (by first | (simp [plainName, overriddenIn]; done) | decide +kernel)
theorem pd2 : parseMethodDescriptor "()V" = some ⟨[], none⟩ := by decide +kernel
theorem ef2 (m : MethodId) (x0 : Addr) : entryFrame m #[(.ref x0)] 1 = mkF m 0 #[.val (.ref x0)] [] := by first | (simp [entryFrame, mkF, argsToLocals, Value.category]; done) | rfl
theorem d1_0 : decode prog_33_method_1_code 0 = .ok (.aload_n 0, 1) := by decide +kernel
theorem d1_1 : decode prog_33_method_1_code 1 = .ok (.invokespecial 1, 3) := by decide +kernel
theorem d1_4 : decode prog_33_method_1_code 4 = .ok (.aload_n 0, 1) := by decide +kernel
theorem d1_5 : decode prog_33_method_1_code 5 = .ok (.dload_n 1, 1) := by decide +kernel
theorem d1_6 : decode prog_33_method_1_code 6 = .ok (.putfield 7, 3) := by decide +kernel
theorem d1_9 : decode prog_33_method_1_code 9 = .ok (.aload_n 0, 1) := by decide +kernel
theorem d1_10 : decode prog_33_method_1_code 10 = .ok (.iload_n 3, 1) := by decide +kernel
theorem d1_11 : decode prog_33_method_1_code 11 = .ok (.putfield 13, 3) := by decide +kernel
theorem d1_14 : decode prog_33_method_1_code 14 = .ok (.aload_n 0, 1) := by decide +kernel
theorem d1_15 : decode prog_33_method_1_code 15 = .ok (.iload 4, 2) := by decide +kernel
theorem d1_17 : decode prog_33_method_1_code 17 = .ok (.putfield 17, 3) := by decide +kernel
theorem d1_20 : decode prog_33_method_1_code 20 = .ok (.aload_n 0, 1) := by decide +kernel
theorem d1_21 : decode prog_33_method_1_code 21 = .ok (.iload 5, 2) := by decide +kernel
theorem d1_23 : decode prog_33_method_1_code 23 = .ok (.putfield 20, 3) := by decide +kernel
theorem d1_26 : decode prog_33_method_1_code 26 = .ok (.aload_n 0, 1) := by decide +kernel
theorem d1_27 : decode prog_33_method_1_code 27 = .ok (.iload 6, 2) := by decide +kernel
theorem d1_29 : decode prog_33_method_1_code 29 = .ok (.putfield 23, 3) := by decide +kernel
theorem d1_32 : decode prog_33_method_1_code 32 = .ok (.aload_n 0, 1) := by decide +kernel
theorem d1_33 : decode prog_33_method_1_code 33 = .ok (.iload 7, 2) := by decide +kernel
theorem d1_35 : decode prog_33_method_1_code 35 = .ok (.putfield 26, 3) := by decide +kernel
theorem d1_38 : decode prog_33_method_1_code 38 = .ok (.return_, 1) := by decide +kernel
theorem pn1 : plainFor (⟨"tesserae/tetris/Features", "<init>", "(DIIIII)V"⟩ : MethodName) = true := plainFor_of_name (by first | (simp [plainName, overriddenIn]; done) | decide +kernel)
theorem pd1 : parseMethodDescriptor "(DIIIII)V" = some ⟨[.double, .int, .int, .int, .int, .int], none⟩ := by decide +kernel
theorem d4_0 : decode prog_33_method_3_code 0 = .ok (.ldc2_w 83, 3) := by decide +kernel
theorem d4_3 : decode prog_33_method_3_code 3 = .ok (.aload_n 0, 1) := by decide +kernel
theorem d4_4 : decode prog_33_method_3_code 4 = .ok (.getfield 7, 3) := by decide +kernel
theorem d4_7 : decode prog_33_method_3_code 7 = .ok (.dmul, 1) := by decide +kernel
theorem d4_8 : decode prog_33_method_3_code 8 = .ok (.bipush 34, 2) := by decide +kernel
theorem d4_10 : decode prog_33_method_3_code 10 = .ok (.aload_n 0, 1) := by decide +kernel
theorem d4_11 : decode prog_33_method_3_code 11 = .ok (.getfield 13, 3) := by decide +kernel
theorem d4_14 : decode prog_33_method_3_code 14 = .ok (.imul, 1) := by decide +kernel
theorem d4_15 : decode prog_33_method_3_code 15 = .ok (.i2d, 1) := by decide +kernel
theorem d4_16 : decode prog_33_method_3_code 16 = .ok (.dadd, 1) := by decide +kernel
theorem d4_17 : decode prog_33_method_3_code 17 = .ok (.bipush 32, 2) := by decide +kernel
theorem d4_19 : decode prog_33_method_3_code 19 = .ok (.aload_n 0, 1) := by decide +kernel
theorem d4_20 : decode prog_33_method_3_code 20 = .ok (.getfield 17, 3) := by decide +kernel
theorem d4_23 : decode prog_33_method_3_code 23 = .ok (.imul, 1) := by decide +kernel
theorem d4_24 : decode prog_33_method_3_code 24 = .ok (.i2d, 1) := by decide +kernel
theorem d4_25 : decode prog_33_method_3_code 25 = .ok (.dsub, 1) := by decide +kernel
theorem d4_26 : decode prog_33_method_3_code 26 = .ok (.bipush 93, 2) := by decide +kernel
theorem d4_28 : decode prog_33_method_3_code 28 = .ok (.aload_n 0, 1) := by decide +kernel
theorem d4_29 : decode prog_33_method_3_code 29 = .ok (.getfield 20, 3) := by decide +kernel
theorem d4_32 : decode prog_33_method_3_code 32 = .ok (.imul, 1) := by decide +kernel
theorem d4_33 : decode prog_33_method_3_code 33 = .ok (.i2d, 1) := by decide +kernel
theorem d4_34 : decode prog_33_method_3_code 34 = .ok (.dsub, 1) := by decide +kernel
theorem d4_35 : decode prog_33_method_3_code 35 = .ok (.bipush 79, 2) := by decide +kernel
theorem d4_37 : decode prog_33_method_3_code 37 = .ok (.aload_n 0, 1) := by decide +kernel
theorem d4_38 : decode prog_33_method_3_code 38 = .ok (.getfield 23, 3) := by decide +kernel
theorem d4_41 : decode prog_33_method_3_code 41 = .ok (.imul, 1) := by decide +kernel
theorem d4_42 : decode prog_33_method_3_code 42 = .ok (.i2d, 1) := by decide +kernel
theorem d4_43 : decode prog_33_method_3_code 43 = .ok (.dsub, 1) := by decide +kernel
theorem d4_44 : decode prog_33_method_3_code 44 = .ok (.bipush 34, 2) := by decide +kernel
theorem d4_46 : decode prog_33_method_3_code 46 = .ok (.aload_n 0, 1) := by decide +kernel
theorem d4_47 : decode prog_33_method_3_code 47 = .ok (.getfield 26, 3) := by decide +kernel
theorem d4_50 : decode prog_33_method_3_code 50 = .ok (.imul, 1) := by decide +kernel
theorem d4_51 : decode prog_33_method_3_code 51 = .ok (.i2d, 1) := by decide +kernel
theorem d4_52 : decode prog_33_method_3_code 52 = .ok (.dsub, 1) := by decide +kernel
theorem d4_53 : decode prog_33_method_3_code 53 = .ok (.dreturn, 1) := by decide +kernel
theorem pn4 : plainFor (⟨"tesserae/tetris/Features", "value", "()D"⟩ : MethodName) = true := plainFor_of_name (by first | (simp [plainName, overriddenIn]; done) | decide +kernel)
theorem pd4 : parseMethodDescriptor "()D" = some ⟨[], some .double⟩ := by decide +kernel
set_option maxRecDepth 65536 in
set_option maxHeartbeats 40000000 in
theorem rm2 (l : Launch) (Z : State) (a0 : Array Value) (hw : ∀ d ∈ tables_1, d.before a0 Z = true) (ws : List Jvm.Cond) (x0 : Addr) (h0 : Heap) : Con l Z (⟨"java/lang/Record", "<init>", "()V"⟩ : MethodName) jdk_30_method_1_code 1 none ws ({ frames := 1, cells := 0, slots := 0, locals := 12 } : Room) #[(.ref x0)] h0 (fun v h L => v = none ∧ h = h0 ∧ L = []) := by
  refine Con.of pn2 fun p e s m below meth c s₁ hZ hx hby hml hown hret hlk hnm X0 e0 => ?_
  rw [ef2]
  show Go _ _ _ _ (s₁.setTop (mkF m 0 #[.val (.ref x0)] []))
  refine Go.step (fun _ k => XS.aloadN X0.here hx rfl (hb hby d2_0) rfl rfl k) ?_
  show Go _ _ _ _ (s₁.setTop (mkF m 1 #[.val (.ref x0)] [(.ref x0)]))
  obtain ⟨T1, X1, e1, st1⟩ := initO X0 hx hZ hown (hw _ (List.mem_of_getElem? (i := 12) rfl)) (hw _ (List.mem_of_getElem? (i := 13) rfl)) (hw _ (List.mem_of_getElem? (i := 14) rfl)) e0 (g := (mkF m 1 #[.val (.ref x0)] [(.ref x0)])) rfl (by rw [hml]; rfl) rfl (hb hby d2_1) (by decide) (W := 0) (by show 2 * 0 + _ ≤ _; exact Nat.le_of_eq rfl) (by decide)
  refine Go.step st1 ?_
  show Go _ _ _ _ (T1.setTop (mkF m 4 #[.val (.ref x0)] []))
  exact leafV X1 hx hret hlk (hb hby d2_4) ⟨rfl, e1, rfl⟩ (by decide) (by decide)
theorem ef1 (m : MethodId) (x0 : Addr) (x1 : UInt64) (x2 : Int32) (x3 : Int32) (x4 : Int32) (x5 : Int32) (x6 : Int32) : entryFrame m #[(.ref x0), (.double x1), (.int x2), (.int x3), (.int x4), (.int x5), (.int x6)] 8 = mkF m 0 #[.val (.ref x0), .val (.double x1), .second, .val (.int x2), .val (.int x3), .val (.int x4), .val (.int x5), .val (.int x6)] [] := by first | (simp [entryFrame, mkF, argsToLocals, Value.category]; done) | rfl
set_option maxRecDepth 65536 in
set_option maxHeartbeats 40000000 in
theorem rm1 (l : Launch) (Z : State) (a0 : Array Value) (hw : ∀ d ∈ tables_1, d.before a0 Z = true) (ws : List Jvm.Cond) (x0 : Addr) (x1 : UInt64) (x2 : Int32) (x3 : Int32) (x4 : Int32) (x5 : Int32) (x6 : Int32) (h0 : Heap) (n0 : Nat) (g0 : n0 ≤ x0) (E0 : Exa Z h0 x0 "tesserae/tetris/Features") (F_landingHeight : Fld Z h0 x0 "tesserae/tetris/Features" "landingHeight" "D" (.double 0)) (F_erodedCells : Fld Z h0 x0 "tesserae/tetris/Features" "erodedCells" "I" (.int (0 : Int32))) (F_rowTransitions : Fld Z h0 x0 "tesserae/tetris/Features" "rowTransitions" "I" (.int (0 : Int32))) (F_columnTransitions : Fld Z h0 x0 "tesserae/tetris/Features" "columnTransitions" "I" (.int (0 : Int32))) (F_holes : Fld Z h0 x0 "tesserae/tetris/Features" "holes" "I" (.int (0 : Int32))) (F_wells : Fld Z h0 x0 "tesserae/tetris/Features" "wells" "I" (.int (0 : Int32))) : Con l Z (⟨"tesserae/tetris/Features", "<init>", "(DIIIII)V"⟩ : MethodName) prog_33_method_1_code 8 none ws ({ frames := 2, cells := 0, slots := 0, locals := 24 } : Room) #[(.ref x0), (.double x1), (.int x2), (.int x3), (.int x4), (.int x5), (.int x6)] h0 (fun v h L => v = none ∧ Fr n0 L ∧ Exa Z h x0 "tesserae/tetris/Features" ∧ Fld Z h x0 "tesserae/tetris/Features" "landingHeight" "D" (.double x1) ∧ Fld Z h x0 "tesserae/tetris/Features" "erodedCells" "I" (.int x2) ∧ Fld Z h x0 "tesserae/tetris/Features" "rowTransitions" "I" (.int x3) ∧ Fld Z h x0 "tesserae/tetris/Features" "columnTransitions" "I" (.int x4) ∧ Fld Z h x0 "tesserae/tetris/Features" "holes" "I" (.int x5) ∧ Fld Z h x0 "tesserae/tetris/Features" "wells" "I" (.int x6)) := by
  refine Con.of pn1 fun p e s m below meth c s₁ hZ hx hby hml hown hret hlk hnm X0 e0 => ?_
  rw [ef1]
  show Go _ _ _ _ (s₁.setTop (mkF m 0 #[.val (.ref x0), .val (.double x1), .second, .val (.int x2), .val (.int x3), .val (.int x4), .val (.int x5), .val (.int x6)] []))
  refine Go.step (fun _ k => XS.aloadN X0.here hx rfl (hb hby d1_0) rfl rfl k) ?_
  show Go _ _ _ _ (s₁.setTop (mkF m 1 #[.val (.ref x0), .val (.double x1), .second, .val (.int x2), .val (.int x3), .val (.int x4), .val (.int x5), .val (.int x6)] [(.ref x0)]))
  refine goI X0 hx hZ rfl hown (hw _ (List.mem_of_getElem? (i := 7) rfl)) (hw _ (List.mem_of_getElem? (i := 8) rfl)) (hw _ (List.mem_of_getElem? (i := 10) rfl)) (hw _ (List.mem_of_getElem? (i := 11) rfl)) (by decide) (rm2 l Z a0 hw [] x0 h0) e0 (by rw [hml]; rfl) x0 [] [] rfl pd2 rfl rfl 0 rfl (hb hby d1_1) (by decide) (by decide) (by decide) (by decide) fun T1 L1 v1 q1 X1 => ?_
  obtain ⟨rfl, e1, rfl⟩ := q1
  rw [List.append_nil] at X1
  show Go _ _ _ _ (T1.setTop (mkF m 4 #[.val (.ref x0), .val (.double x1), .second, .val (.int x2), .val (.int x3), .val (.int x4), .val (.int x5), .val (.int x6)] []))
  refine Go.step (fun _ k => XS.aloadN X1.here hx rfl (hb hby d1_4) rfl rfl k) ?_
  show Go _ _ _ _ (T1.setTop (mkF m 5 #[.val (.ref x0), .val (.double x1), .second, .val (.int x2), .val (.int x3), .val (.int x4), .val (.int x5), .val (.int x6)] [(.ref x0)]))
  refine Go.step (fun _ k => XS.dloadN X1.here hx rfl (hb hby d1_5) rfl k) ?_
  show Go _ _ _ _ (T1.setTop (mkF m 6 #[.val (.ref x0), .val (.double x1), .second, .val (.int x2), .val (.int x3), .val (.int x4), .val (.int x5), .val (.int x6)] [(.double x1), (.ref x0)]))
  obtain ⟨T2, h2, X2, e2, W2, st2⟩ := putF X1 hx hZ hown (host := "") (Or.inl (hw _ (List.mem_of_getElem? (i := 15) rfl))) Via.refl e1 F_landingHeight E0 (Or.inr ⟨(hw _ (List.mem_of_getElem? (i := 16) rfl)), rfl, hnm⟩) (hw _ (List.mem_of_getElem? (i := 1) rfl)) (ty := .double) (by decide) rfl rfl (g := (mkF m 6 #[.val (.ref x0), .val (.double x1), .second, .val (.int x2), .val (.int x3), .val (.int x4), .val (.int x5), .val (.int x6)] [(.double x1), (.ref x0)])) rfl rfl (hb hby d1_6)
  have F2_landingHeight := F_landingHeight.same W2
  have F2_erodedCells := F_erodedCells.other W2 (Or.inr (slot_ne (Or.inr (hw _ (List.mem_of_getElem? (i := 18) rfl))) (Or.inr (hw _ (List.mem_of_getElem? (i := 16) rfl))) (by decide) (t := .int) (t' := .double) (by decide) (by decide)))
  have F2_rowTransitions := F_rowTransitions.other W2 (Or.inr (slot_ne (Or.inr (hw _ (List.mem_of_getElem? (i := 20) rfl))) (Or.inr (hw _ (List.mem_of_getElem? (i := 16) rfl))) (by decide) (t := .int) (t' := .double) (by decide) (by decide)))
  have F2_columnTransitions := F_columnTransitions.other W2 (Or.inr (slot_ne (Or.inr (hw _ (List.mem_of_getElem? (i := 22) rfl))) (Or.inr (hw _ (List.mem_of_getElem? (i := 16) rfl))) (by decide) (t := .int) (t' := .double) (by decide) (by decide)))
  have F2_holes := F_holes.other W2 (Or.inr (slot_ne (Or.inr (hw _ (List.mem_of_getElem? (i := 24) rfl))) (Or.inr (hw _ (List.mem_of_getElem? (i := 16) rfl))) (by decide) (t := .int) (t' := .double) (by decide) (by decide)))
  have F2_wells := F_wells.other W2 (Or.inr (slot_ne (Or.inr (hw _ (List.mem_of_getElem? (i := 26) rfl))) (Or.inr (hw _ (List.mem_of_getElem? (i := 16) rfl))) (by decide) (t := .int) (t' := .double) (by decide) (by decide)))
  have E_2 := E0.wr W2
  have NF2 := Fr.snoc X2 (Fr.nil n0) g0
  refine Go.step st2 ?_
  show Go _ _ _ _ (T2.setTop (mkF m 9 #[.val (.ref x0), .val (.double x1), .second, .val (.int x2), .val (.int x3), .val (.int x4), .val (.int x5), .val (.int x6)] []))
  refine Go.step (fun _ k => XS.aloadN X2.here hx rfl (hb hby d1_9) rfl rfl k) ?_
  show Go _ _ _ _ (T2.setTop (mkF m 10 #[.val (.ref x0), .val (.double x1), .second, .val (.int x2), .val (.int x3), .val (.int x4), .val (.int x5), .val (.int x6)] [(.ref x0)]))
  refine Go.step (fun _ k => XS.iloadN X2.here hx rfl (hb hby d1_10) rfl k) ?_
  show Go _ _ _ _ (T2.setTop (mkF m 11 #[.val (.ref x0), .val (.double x1), .second, .val (.int x2), .val (.int x3), .val (.int x4), .val (.int x5), .val (.int x6)] [(.int x2), (.ref x0)]))
  obtain ⟨T3, h3, X3, e3, W3, st3⟩ := putF X2 hx hZ hown (host := "") (Or.inl (hw _ (List.mem_of_getElem? (i := 17) rfl))) Via.refl e2 F2_erodedCells E_2 (Or.inr ⟨(hw _ (List.mem_of_getElem? (i := 18) rfl)), rfl, hnm⟩) (hw _ (List.mem_of_getElem? (i := 1) rfl)) (ty := .int) (by decide) rfl rfl (g := (mkF m 11 #[.val (.ref x0), .val (.double x1), .second, .val (.int x2), .val (.int x3), .val (.int x4), .val (.int x5), .val (.int x6)] [(.int x2), (.ref x0)])) rfl rfl (hb hby d1_11)
  have F3_landingHeight := F2_landingHeight.other W3 (Or.inr (slot_ne (Or.inr (hw _ (List.mem_of_getElem? (i := 16) rfl))) (Or.inr (hw _ (List.mem_of_getElem? (i := 18) rfl))) (by decide) (t := .double) (t' := .int) (by decide) (by decide)))
  have F3_erodedCells := F2_erodedCells.same W3
  have F3_rowTransitions := F2_rowTransitions.other W3 (Or.inr (slot_ne (Or.inr (hw _ (List.mem_of_getElem? (i := 20) rfl))) (Or.inr (hw _ (List.mem_of_getElem? (i := 18) rfl))) (by decide) (t := .int) (t' := .int) (by decide) (by decide)))
  have F3_columnTransitions := F2_columnTransitions.other W3 (Or.inr (slot_ne (Or.inr (hw _ (List.mem_of_getElem? (i := 22) rfl))) (Or.inr (hw _ (List.mem_of_getElem? (i := 18) rfl))) (by decide) (t := .int) (t' := .int) (by decide) (by decide)))
  have F3_holes := F2_holes.other W3 (Or.inr (slot_ne (Or.inr (hw _ (List.mem_of_getElem? (i := 24) rfl))) (Or.inr (hw _ (List.mem_of_getElem? (i := 18) rfl))) (by decide) (t := .int) (t' := .int) (by decide) (by decide)))
  have F3_wells := F2_wells.other W3 (Or.inr (slot_ne (Or.inr (hw _ (List.mem_of_getElem? (i := 26) rfl))) (Or.inr (hw _ (List.mem_of_getElem? (i := 18) rfl))) (by decide) (t := .int) (t' := .int) (by decide) (by decide)))
  have E_3 := E_2.wr W3
  have NF3 := Fr.snoc X3 NF2 g0
  refine Go.step st3 ?_
  show Go _ _ _ _ (T3.setTop (mkF m 14 #[.val (.ref x0), .val (.double x1), .second, .val (.int x2), .val (.int x3), .val (.int x4), .val (.int x5), .val (.int x6)] []))
  refine Go.step (fun _ k => XS.aloadN X3.here hx rfl (hb hby d1_14) rfl rfl k) ?_
  show Go _ _ _ _ (T3.setTop (mkF m 15 #[.val (.ref x0), .val (.double x1), .second, .val (.int x2), .val (.int x3), .val (.int x4), .val (.int x5), .val (.int x6)] [(.ref x0)]))
  refine Go.step (fun _ k => XS.iload X3.here hx rfl (hb hby d1_15) rfl k) ?_
  show Go _ _ _ _ (T3.setTop (mkF m 17 #[.val (.ref x0), .val (.double x1), .second, .val (.int x2), .val (.int x3), .val (.int x4), .val (.int x5), .val (.int x6)] [(.int x3), (.ref x0)]))
  obtain ⟨T4, h4, X4, e4, W4, st4⟩ := putF X3 hx hZ hown (host := "") (Or.inl (hw _ (List.mem_of_getElem? (i := 19) rfl))) Via.refl e3 F3_rowTransitions E_3 (Or.inr ⟨(hw _ (List.mem_of_getElem? (i := 20) rfl)), rfl, hnm⟩) (hw _ (List.mem_of_getElem? (i := 1) rfl)) (ty := .int) (by decide) rfl rfl (g := (mkF m 17 #[.val (.ref x0), .val (.double x1), .second, .val (.int x2), .val (.int x3), .val (.int x4), .val (.int x5), .val (.int x6)] [(.int x3), (.ref x0)])) rfl rfl (hb hby d1_17)
  have F4_landingHeight := F3_landingHeight.other W4 (Or.inr (slot_ne (Or.inr (hw _ (List.mem_of_getElem? (i := 16) rfl))) (Or.inr (hw _ (List.mem_of_getElem? (i := 20) rfl))) (by decide) (t := .double) (t' := .int) (by decide) (by decide)))
  have F4_erodedCells := F3_erodedCells.other W4 (Or.inr (slot_ne (Or.inr (hw _ (List.mem_of_getElem? (i := 18) rfl))) (Or.inr (hw _ (List.mem_of_getElem? (i := 20) rfl))) (by decide) (t := .int) (t' := .int) (by decide) (by decide)))
  have F4_rowTransitions := F3_rowTransitions.same W4
  have F4_columnTransitions := F3_columnTransitions.other W4 (Or.inr (slot_ne (Or.inr (hw _ (List.mem_of_getElem? (i := 22) rfl))) (Or.inr (hw _ (List.mem_of_getElem? (i := 20) rfl))) (by decide) (t := .int) (t' := .int) (by decide) (by decide)))
  have F4_holes := F3_holes.other W4 (Or.inr (slot_ne (Or.inr (hw _ (List.mem_of_getElem? (i := 24) rfl))) (Or.inr (hw _ (List.mem_of_getElem? (i := 20) rfl))) (by decide) (t := .int) (t' := .int) (by decide) (by decide)))
  have F4_wells := F3_wells.other W4 (Or.inr (slot_ne (Or.inr (hw _ (List.mem_of_getElem? (i := 26) rfl))) (Or.inr (hw _ (List.mem_of_getElem? (i := 20) rfl))) (by decide) (t := .int) (t' := .int) (by decide) (by decide)))
  have E_4 := E_3.wr W4
  have NF4 := Fr.snoc X4 NF3 g0
  refine Go.step st4 ?_
  show Go _ _ _ _ (T4.setTop (mkF m 20 #[.val (.ref x0), .val (.double x1), .second, .val (.int x2), .val (.int x3), .val (.int x4), .val (.int x5), .val (.int x6)] []))
  refine Go.step (fun _ k => XS.aloadN X4.here hx rfl (hb hby d1_20) rfl rfl k) ?_
  show Go _ _ _ _ (T4.setTop (mkF m 21 #[.val (.ref x0), .val (.double x1), .second, .val (.int x2), .val (.int x3), .val (.int x4), .val (.int x5), .val (.int x6)] [(.ref x0)]))
  refine Go.step (fun _ k => XS.iload X4.here hx rfl (hb hby d1_21) rfl k) ?_
  show Go _ _ _ _ (T4.setTop (mkF m 23 #[.val (.ref x0), .val (.double x1), .second, .val (.int x2), .val (.int x3), .val (.int x4), .val (.int x5), .val (.int x6)] [(.int x4), (.ref x0)]))
  obtain ⟨T5, h5, X5, e5, W5, st5⟩ := putF X4 hx hZ hown (host := "") (Or.inl (hw _ (List.mem_of_getElem? (i := 21) rfl))) Via.refl e4 F4_columnTransitions E_4 (Or.inr ⟨(hw _ (List.mem_of_getElem? (i := 22) rfl)), rfl, hnm⟩) (hw _ (List.mem_of_getElem? (i := 1) rfl)) (ty := .int) (by decide) rfl rfl (g := (mkF m 23 #[.val (.ref x0), .val (.double x1), .second, .val (.int x2), .val (.int x3), .val (.int x4), .val (.int x5), .val (.int x6)] [(.int x4), (.ref x0)])) rfl rfl (hb hby d1_23)
  have F5_landingHeight := F4_landingHeight.other W5 (Or.inr (slot_ne (Or.inr (hw _ (List.mem_of_getElem? (i := 16) rfl))) (Or.inr (hw _ (List.mem_of_getElem? (i := 22) rfl))) (by decide) (t := .double) (t' := .int) (by decide) (by decide)))
  have F5_erodedCells := F4_erodedCells.other W5 (Or.inr (slot_ne (Or.inr (hw _ (List.mem_of_getElem? (i := 18) rfl))) (Or.inr (hw _ (List.mem_of_getElem? (i := 22) rfl))) (by decide) (t := .int) (t' := .int) (by decide) (by decide)))
  have F5_rowTransitions := F4_rowTransitions.other W5 (Or.inr (slot_ne (Or.inr (hw _ (List.mem_of_getElem? (i := 20) rfl))) (Or.inr (hw _ (List.mem_of_getElem? (i := 22) rfl))) (by decide) (t := .int) (t' := .int) (by decide) (by decide)))
  have F5_columnTransitions := F4_columnTransitions.same W5
  have F5_holes := F4_holes.other W5 (Or.inr (slot_ne (Or.inr (hw _ (List.mem_of_getElem? (i := 24) rfl))) (Or.inr (hw _ (List.mem_of_getElem? (i := 22) rfl))) (by decide) (t := .int) (t' := .int) (by decide) (by decide)))
  have F5_wells := F4_wells.other W5 (Or.inr (slot_ne (Or.inr (hw _ (List.mem_of_getElem? (i := 26) rfl))) (Or.inr (hw _ (List.mem_of_getElem? (i := 22) rfl))) (by decide) (t := .int) (t' := .int) (by decide) (by decide)))
  have E_5 := E_4.wr W5
  have NF5 := Fr.snoc X5 NF4 g0
  refine Go.step st5 ?_
  show Go _ _ _ _ (T5.setTop (mkF m 26 #[.val (.ref x0), .val (.double x1), .second, .val (.int x2), .val (.int x3), .val (.int x4), .val (.int x5), .val (.int x6)] []))
  refine Go.step (fun _ k => XS.aloadN X5.here hx rfl (hb hby d1_26) rfl rfl k) ?_
  show Go _ _ _ _ (T5.setTop (mkF m 27 #[.val (.ref x0), .val (.double x1), .second, .val (.int x2), .val (.int x3), .val (.int x4), .val (.int x5), .val (.int x6)] [(.ref x0)]))
  refine Go.step (fun _ k => XS.iload X5.here hx rfl (hb hby d1_27) rfl k) ?_
  show Go _ _ _ _ (T5.setTop (mkF m 29 #[.val (.ref x0), .val (.double x1), .second, .val (.int x2), .val (.int x3), .val (.int x4), .val (.int x5), .val (.int x6)] [(.int x5), (.ref x0)]))
  obtain ⟨T6, h6, X6, e6, W6, st6⟩ := putF X5 hx hZ hown (host := "") (Or.inl (hw _ (List.mem_of_getElem? (i := 23) rfl))) Via.refl e5 F5_holes E_5 (Or.inr ⟨(hw _ (List.mem_of_getElem? (i := 24) rfl)), rfl, hnm⟩) (hw _ (List.mem_of_getElem? (i := 1) rfl)) (ty := .int) (by decide) rfl rfl (g := (mkF m 29 #[.val (.ref x0), .val (.double x1), .second, .val (.int x2), .val (.int x3), .val (.int x4), .val (.int x5), .val (.int x6)] [(.int x5), (.ref x0)])) rfl rfl (hb hby d1_29)
  have F6_landingHeight := F5_landingHeight.other W6 (Or.inr (slot_ne (Or.inr (hw _ (List.mem_of_getElem? (i := 16) rfl))) (Or.inr (hw _ (List.mem_of_getElem? (i := 24) rfl))) (by decide) (t := .double) (t' := .int) (by decide) (by decide)))
  have F6_erodedCells := F5_erodedCells.other W6 (Or.inr (slot_ne (Or.inr (hw _ (List.mem_of_getElem? (i := 18) rfl))) (Or.inr (hw _ (List.mem_of_getElem? (i := 24) rfl))) (by decide) (t := .int) (t' := .int) (by decide) (by decide)))
  have F6_rowTransitions := F5_rowTransitions.other W6 (Or.inr (slot_ne (Or.inr (hw _ (List.mem_of_getElem? (i := 20) rfl))) (Or.inr (hw _ (List.mem_of_getElem? (i := 24) rfl))) (by decide) (t := .int) (t' := .int) (by decide) (by decide)))
  have F6_columnTransitions := F5_columnTransitions.other W6 (Or.inr (slot_ne (Or.inr (hw _ (List.mem_of_getElem? (i := 22) rfl))) (Or.inr (hw _ (List.mem_of_getElem? (i := 24) rfl))) (by decide) (t := .int) (t' := .int) (by decide) (by decide)))
  have F6_holes := F5_holes.same W6
  have F6_wells := F5_wells.other W6 (Or.inr (slot_ne (Or.inr (hw _ (List.mem_of_getElem? (i := 26) rfl))) (Or.inr (hw _ (List.mem_of_getElem? (i := 24) rfl))) (by decide) (t := .int) (t' := .int) (by decide) (by decide)))
  have E_6 := E_5.wr W6
  have NF6 := Fr.snoc X6 NF5 g0
  refine Go.step st6 ?_
  show Go _ _ _ _ (T6.setTop (mkF m 32 #[.val (.ref x0), .val (.double x1), .second, .val (.int x2), .val (.int x3), .val (.int x4), .val (.int x5), .val (.int x6)] []))
  refine Go.step (fun _ k => XS.aloadN X6.here hx rfl (hb hby d1_32) rfl rfl k) ?_
  show Go _ _ _ _ (T6.setTop (mkF m 33 #[.val (.ref x0), .val (.double x1), .second, .val (.int x2), .val (.int x3), .val (.int x4), .val (.int x5), .val (.int x6)] [(.ref x0)]))
  refine Go.step (fun _ k => XS.iload X6.here hx rfl (hb hby d1_33) rfl k) ?_
  show Go _ _ _ _ (T6.setTop (mkF m 35 #[.val (.ref x0), .val (.double x1), .second, .val (.int x2), .val (.int x3), .val (.int x4), .val (.int x5), .val (.int x6)] [(.int x6), (.ref x0)]))
  obtain ⟨T7, h7, X7, e7, W7, st7⟩ := putF X6 hx hZ hown (host := "") (Or.inl (hw _ (List.mem_of_getElem? (i := 25) rfl))) Via.refl e6 F6_wells E_6 (Or.inr ⟨(hw _ (List.mem_of_getElem? (i := 26) rfl)), rfl, hnm⟩) (hw _ (List.mem_of_getElem? (i := 1) rfl)) (ty := .int) (by decide) rfl rfl (g := (mkF m 35 #[.val (.ref x0), .val (.double x1), .second, .val (.int x2), .val (.int x3), .val (.int x4), .val (.int x5), .val (.int x6)] [(.int x6), (.ref x0)])) rfl rfl (hb hby d1_35)
  have F7_landingHeight := F6_landingHeight.other W7 (Or.inr (slot_ne (Or.inr (hw _ (List.mem_of_getElem? (i := 16) rfl))) (Or.inr (hw _ (List.mem_of_getElem? (i := 26) rfl))) (by decide) (t := .double) (t' := .int) (by decide) (by decide)))
  have F7_erodedCells := F6_erodedCells.other W7 (Or.inr (slot_ne (Or.inr (hw _ (List.mem_of_getElem? (i := 18) rfl))) (Or.inr (hw _ (List.mem_of_getElem? (i := 26) rfl))) (by decide) (t := .int) (t' := .int) (by decide) (by decide)))
  have F7_rowTransitions := F6_rowTransitions.other W7 (Or.inr (slot_ne (Or.inr (hw _ (List.mem_of_getElem? (i := 20) rfl))) (Or.inr (hw _ (List.mem_of_getElem? (i := 26) rfl))) (by decide) (t := .int) (t' := .int) (by decide) (by decide)))
  have F7_columnTransitions := F6_columnTransitions.other W7 (Or.inr (slot_ne (Or.inr (hw _ (List.mem_of_getElem? (i := 22) rfl))) (Or.inr (hw _ (List.mem_of_getElem? (i := 26) rfl))) (by decide) (t := .int) (t' := .int) (by decide) (by decide)))
  have F7_holes := F6_holes.other W7 (Or.inr (slot_ne (Or.inr (hw _ (List.mem_of_getElem? (i := 24) rfl))) (Or.inr (hw _ (List.mem_of_getElem? (i := 26) rfl))) (by decide) (t := .int) (t' := .int) (by decide) (by decide)))
  have F7_wells := F6_wells.same W7
  have E_7 := E_6.wr W7
  have NF7 := Fr.snoc X7 NF6 g0
  refine Go.step st7 ?_
  show Go _ _ _ _ (T7.setTop (mkF m 38 #[.val (.ref x0), .val (.double x1), .second, .val (.int x2), .val (.int x3), .val (.int x4), .val (.int x5), .val (.int x6)] []))
  exact leafV X7 hx hret hlk (hb hby d1_38) ⟨rfl, NF7, by rw [e7]; exact E_7, by rw [e7]; exact F7_landingHeight, by rw [e7]; exact F7_erodedCells, by rw [e7]; exact F7_rowTransitions, by rw [e7]; exact F7_columnTransitions, by rw [e7]; exact F7_holes, by rw [e7]; exact F7_wells⟩ (by decide) (by decide)
theorem ef4 (m : MethodId) (x0 : Addr) : entryFrame m #[(.ref x0)] 1 = mkF m 0 #[.val (.ref x0)] [] := by first | (simp [entryFrame, mkF, argsToLocals, Value.category]; done) | rfl
set_option maxRecDepth 65536 in
set_option maxHeartbeats 40000000 in
theorem rm4 (l : Launch) (Z : State) (a0 : Array Value) (hw : ∀ d ∈ tables_1, d.before a0 Z = true) (ws : List Jvm.Cond) (x0 : Addr) (h0 : Heap) (hh y1 y2 y3 y4 y5 : Int32) (d : UInt64) (HD : Jvm.Pilot.@@N@@.HInt hh.toInt d) (B0 : Small hh) (B1 : Small y1) (B2 : Small y2) (B3 : Small y3) (B4 : Small y4) (B5 : Small y5) (F_landingHeight : Fld Z h0 x0 "tesserae/tetris/Features" "landingHeight" "D" (.double d)) (F_erodedCells : Fld Z h0 x0 "tesserae/tetris/Features" "erodedCells" "I" (.int y1)) (F_rowTransitions : Fld Z h0 x0 "tesserae/tetris/Features" "rowTransitions" "I" (.int y2)) (F_columnTransitions : Fld Z h0 x0 "tesserae/tetris/Features" "columnTransitions" "I" (.int y3)) (F_holes : Fld Z h0 x0 "tesserae/tetris/Features" "holes" "I" (.int y4)) (F_wells : Fld Z h0 x0 "tesserae/tetris/Features" "wells" "I" (.int y5)) : Con l Z (⟨"tesserae/tetris/Features", "value", "()D"⟩ : MethodName) prog_33_method_3_code 1 (some .double) ws ({ frames := 0, cells := 0, slots := 0, locals := 0 } : Room) #[(.ref x0)] h0 (fun v h L => v = some (.double (v6 d y1 y2 y3 y4 y5)) ∧ h = h0 ∧ L = []) := by
  refine Con.of pn4 fun p e s m below meth c s₁ hZ hx hby hml hown hret hlk hnm X0 e0 => ?_
  rw [ef4]
  show Go _ _ _ _ (s₁.setTop (mkF m 0 #[.val (.ref x0)] []))
  refine Go.step (X0.ldc2DoubleC hx hown (mvT hZ (hw _ (List.mem_of_getElem? (i := 37) rfl))) (g := (mkF m 0 #[.val (.ref x0)] [])) rfl (hb hby d4_0)) ?_
  show Go _ _ _ _ (s₁.setTop (mkF m 3 #[.val (.ref x0)] [(.double (13854902041140264960 : UInt64))]))
  refine Go.step (fun _ k => XS.aloadN X0.here hx rfl (hb hby d4_3) rfl rfl k) ?_
  show Go _ _ _ _ (s₁.setTop (mkF m 4 #[.val (.ref x0)] [(.ref x0), (.double (13854902041140264960 : UInt64))]))
  obtain ⟨T1, X1, e1, st1⟩ := getF X0 hx hZ hown (host := "") (Or.inl (hw _ (List.mem_of_getElem? (i := 15) rfl))) Via.refl e0 F_landingHeight (g := (mkF m 4 #[.val (.ref x0)] [(.ref x0), (.double (13854902041140264960 : UInt64))])) rfl rfl (hb hby d4_4)
  refine Go.step st1 ?_
  show Go _ _ _ _ (T1.setTop (mkF m 7 #[.val (.ref x0)] [(.double d), (.double (13854902041140264960 : UInt64))]))
  refine Go.step (fun _ k => XS.dmulS X1.here hx rfl (hb hby d4_7) rfl (own_vals hh y1 y2 y3 y4 y5 d HD B0 B1 B2 B3 B4 B5).1.no (v := (v1 d)) rfl k) ?_
  show Go _ _ _ _ (T1.setTop (mkF m 8 #[.val (.ref x0)] [(.double (v1 d))]))
  refine Go.step (fun _ k => XS.bipush X1.here hx rfl (hb hby d4_8) k) ?_
  show Go _ _ _ _ (T1.setTop (mkF m 10 #[.val (.ref x0)] [(.int (34 : Int32)), (.double (v1 d))]))
  refine Go.step (fun _ k => XS.aloadN X1.here hx rfl (hb hby d4_10) rfl rfl k) ?_
  show Go _ _ _ _ (T1.setTop (mkF m 11 #[.val (.ref x0)] [(.ref x0), (.int (34 : Int32)), (.double (v1 d))]))
  obtain ⟨T2, X2, e2, st2⟩ := getF X1 hx hZ hown (host := "") (Or.inl (hw _ (List.mem_of_getElem? (i := 17) rfl))) Via.refl e1 F_erodedCells (g := (mkF m 11 #[.val (.ref x0)] [(.ref x0), (.int (34 : Int32)), (.double (v1 d))])) rfl rfl (hb hby d4_11)
  refine Go.step st2 ?_
  show Go _ _ _ _ (T2.setTop (mkF m 14 #[.val (.ref x0)] [(.int y1), (.int (34 : Int32)), (.double (v1 d))]))
  refine Go.step (fun _ k => XS.imul X2.here hx rfl (hb hby d4_14) rfl k) ?_
  show Go _ _ _ _ (T2.setTop (mkF m 15 #[.val (.ref x0)] [(.int ((34 : Int32) * y1)), (.double (v1 d))]))
  refine Go.step (fun _ k => XS.i2dS X2.here hx rfl (hb hby d4_15) rfl rfl k) ?_
  show Go _ _ _ _ (T2.setTop (mkF m 16 #[.val (.ref x0)] [(.double (FP.i2d ((34 : Int32) * y1))), (.double (v1 d))]))
  refine Go.step (fun _ k => XS.daddS X2.here hx rfl (hb hby d4_16) rfl (own_vals hh y1 y2 y3 y4 y5 d HD B0 B1 B2 B3 B4 B5).2.1.no (v := (v2 d y1)) rfl k) ?_
  show Go _ _ _ _ (T2.setTop (mkF m 17 #[.val (.ref x0)] [(.double (v2 d y1))]))
  refine Go.step (fun _ k => XS.bipush X2.here hx rfl (hb hby d4_17) k) ?_
  show Go _ _ _ _ (T2.setTop (mkF m 19 #[.val (.ref x0)] [(.int (32 : Int32)), (.double (v2 d y1))]))
  refine Go.step (fun _ k => XS.aloadN X2.here hx rfl (hb hby d4_19) rfl rfl k) ?_
  show Go _ _ _ _ (T2.setTop (mkF m 20 #[.val (.ref x0)] [(.ref x0), (.int (32 : Int32)), (.double (v2 d y1))]))
  obtain ⟨T3, X3, e3, st3⟩ := getF X2 hx hZ hown (host := "") (Or.inl (hw _ (List.mem_of_getElem? (i := 19) rfl))) Via.refl e2 F_rowTransitions (g := (mkF m 20 #[.val (.ref x0)] [(.ref x0), (.int (32 : Int32)), (.double (v2 d y1))])) rfl rfl (hb hby d4_20)
  refine Go.step st3 ?_
  show Go _ _ _ _ (T3.setTop (mkF m 23 #[.val (.ref x0)] [(.int y2), (.int (32 : Int32)), (.double (v2 d y1))]))
  refine Go.step (fun _ k => XS.imul X3.here hx rfl (hb hby d4_23) rfl k) ?_
  show Go _ _ _ _ (T3.setTop (mkF m 24 #[.val (.ref x0)] [(.int ((32 : Int32) * y2)), (.double (v2 d y1))]))
  refine Go.step (fun _ k => XS.i2dS X3.here hx rfl (hb hby d4_24) rfl rfl k) ?_
  show Go _ _ _ _ (T3.setTop (mkF m 25 #[.val (.ref x0)] [(.double (FP.i2d ((32 : Int32) * y2))), (.double (v2 d y1))]))
  refine Go.step (fun _ k => XS.dsubS X3.here hx rfl (hb hby d4_25) rfl (own_vals hh y1 y2 y3 y4 y5 d HD B0 B1 B2 B3 B4 B5).2.2.1.no (v := (v3 d y1 y2)) rfl k) ?_
  show Go _ _ _ _ (T3.setTop (mkF m 26 #[.val (.ref x0)] [(.double (v3 d y1 y2))]))
  refine Go.step (fun _ k => XS.bipush X3.here hx rfl (hb hby d4_26) k) ?_
  show Go _ _ _ _ (T3.setTop (mkF m 28 #[.val (.ref x0)] [(.int (93 : Int32)), (.double (v3 d y1 y2))]))
  refine Go.step (fun _ k => XS.aloadN X3.here hx rfl (hb hby d4_28) rfl rfl k) ?_
  show Go _ _ _ _ (T3.setTop (mkF m 29 #[.val (.ref x0)] [(.ref x0), (.int (93 : Int32)), (.double (v3 d y1 y2))]))
  obtain ⟨T4, X4, e4, st4⟩ := getF X3 hx hZ hown (host := "") (Or.inl (hw _ (List.mem_of_getElem? (i := 21) rfl))) Via.refl e3 F_columnTransitions (g := (mkF m 29 #[.val (.ref x0)] [(.ref x0), (.int (93 : Int32)), (.double (v3 d y1 y2))])) rfl rfl (hb hby d4_29)
  refine Go.step st4 ?_
  show Go _ _ _ _ (T4.setTop (mkF m 32 #[.val (.ref x0)] [(.int y3), (.int (93 : Int32)), (.double (v3 d y1 y2))]))
  refine Go.step (fun _ k => XS.imul X4.here hx rfl (hb hby d4_32) rfl k) ?_
  show Go _ _ _ _ (T4.setTop (mkF m 33 #[.val (.ref x0)] [(.int ((93 : Int32) * y3)), (.double (v3 d y1 y2))]))
  refine Go.step (fun _ k => XS.i2dS X4.here hx rfl (hb hby d4_33) rfl rfl k) ?_
  show Go _ _ _ _ (T4.setTop (mkF m 34 #[.val (.ref x0)] [(.double (FP.i2d ((93 : Int32) * y3))), (.double (v3 d y1 y2))]))
  refine Go.step (fun _ k => XS.dsubS X4.here hx rfl (hb hby d4_34) rfl (own_vals hh y1 y2 y3 y4 y5 d HD B0 B1 B2 B3 B4 B5).2.2.2.1.no (v := (v4 d y1 y2 y3)) rfl k) ?_
  show Go _ _ _ _ (T4.setTop (mkF m 35 #[.val (.ref x0)] [(.double (v4 d y1 y2 y3))]))
  refine Go.step (fun _ k => XS.bipush X4.here hx rfl (hb hby d4_35) k) ?_
  show Go _ _ _ _ (T4.setTop (mkF m 37 #[.val (.ref x0)] [(.int (79 : Int32)), (.double (v4 d y1 y2 y3))]))
  refine Go.step (fun _ k => XS.aloadN X4.here hx rfl (hb hby d4_37) rfl rfl k) ?_
  show Go _ _ _ _ (T4.setTop (mkF m 38 #[.val (.ref x0)] [(.ref x0), (.int (79 : Int32)), (.double (v4 d y1 y2 y3))]))
  obtain ⟨T5, X5, e5, st5⟩ := getF X4 hx hZ hown (host := "") (Or.inl (hw _ (List.mem_of_getElem? (i := 23) rfl))) Via.refl e4 F_holes (g := (mkF m 38 #[.val (.ref x0)] [(.ref x0), (.int (79 : Int32)), (.double (v4 d y1 y2 y3))])) rfl rfl (hb hby d4_38)
  refine Go.step st5 ?_
  show Go _ _ _ _ (T5.setTop (mkF m 41 #[.val (.ref x0)] [(.int y4), (.int (79 : Int32)), (.double (v4 d y1 y2 y3))]))
  refine Go.step (fun _ k => XS.imul X5.here hx rfl (hb hby d4_41) rfl k) ?_
  show Go _ _ _ _ (T5.setTop (mkF m 42 #[.val (.ref x0)] [(.int ((79 : Int32) * y4)), (.double (v4 d y1 y2 y3))]))
  refine Go.step (fun _ k => XS.i2dS X5.here hx rfl (hb hby d4_42) rfl rfl k) ?_
  show Go _ _ _ _ (T5.setTop (mkF m 43 #[.val (.ref x0)] [(.double (FP.i2d ((79 : Int32) * y4))), (.double (v4 d y1 y2 y3))]))
  refine Go.step (fun _ k => XS.dsubS X5.here hx rfl (hb hby d4_43) rfl (own_vals hh y1 y2 y3 y4 y5 d HD B0 B1 B2 B3 B4 B5).2.2.2.2.1.no (v := (v5 d y1 y2 y3 y4)) rfl k) ?_
  show Go _ _ _ _ (T5.setTop (mkF m 44 #[.val (.ref x0)] [(.double (v5 d y1 y2 y3 y4))]))
  refine Go.step (fun _ k => XS.bipush X5.here hx rfl (hb hby d4_44) k) ?_
  show Go _ _ _ _ (T5.setTop (mkF m 46 #[.val (.ref x0)] [(.int (34 : Int32)), (.double (v5 d y1 y2 y3 y4))]))
  refine Go.step (fun _ k => XS.aloadN X5.here hx rfl (hb hby d4_46) rfl rfl k) ?_
  show Go _ _ _ _ (T5.setTop (mkF m 47 #[.val (.ref x0)] [(.ref x0), (.int (34 : Int32)), (.double (v5 d y1 y2 y3 y4))]))
  obtain ⟨T6, X6, e6, st6⟩ := getF X5 hx hZ hown (host := "") (Or.inl (hw _ (List.mem_of_getElem? (i := 25) rfl))) Via.refl e5 F_wells (g := (mkF m 47 #[.val (.ref x0)] [(.ref x0), (.int (34 : Int32)), (.double (v5 d y1 y2 y3 y4))])) rfl rfl (hb hby d4_47)
  refine Go.step st6 ?_
  show Go _ _ _ _ (T6.setTop (mkF m 50 #[.val (.ref x0)] [(.int y5), (.int (34 : Int32)), (.double (v5 d y1 y2 y3 y4))]))
  refine Go.step (fun _ k => XS.imul X6.here hx rfl (hb hby d4_50) rfl k) ?_
  show Go _ _ _ _ (T6.setTop (mkF m 51 #[.val (.ref x0)] [(.int ((34 : Int32) * y5)), (.double (v5 d y1 y2 y3 y4))]))
  refine Go.step (fun _ k => XS.i2dS X6.here hx rfl (hb hby d4_51) rfl rfl k) ?_
  show Go _ _ _ _ (T6.setTop (mkF m 52 #[.val (.ref x0)] [(.double (FP.i2d ((34 : Int32) * y5))), (.double (v5 d y1 y2 y3 y4))]))
  refine Go.step (fun _ k => XS.dsubS X6.here hx rfl (hb hby d4_52) rfl (own_vals hh y1 y2 y3 y4 y5 d HD B0 B1 B2 B3 B4 B5).2.2.2.2.2.no (v := (v6 d y1 y2 y3 y4 y5)) rfl k) ?_
  show Go _ _ _ _ (T6.setTop (mkF m 53 #[.val (.ref x0)] [(.double (v6 d y1 y2 y3 y4 y5))]))
  exact leafO X6 hx hret hlk rfl (Or.inr (Or.inr (Or.inl ⟨rfl, rfl, _, rfl⟩))) (hb hby d4_53) ⟨rfl, e6, rfl⟩ (by decide) (by decide)
theorem pn0 : plainFor x = true := plainFor_of_name (by first | (simp [plainName, overriddenIn, x]; done) | decide +kernel)
theorem ef0 (m : MethodId) (x0 : Int32) (x1 : Int32) (x2 : Int32) (x3 : Int32) (x4 : Int32) (x5 : Int32) : entryFrame m #[(.int x0), (.int x1), (.int x2), (.int x3), (.int x4), (.int x5)] maxLocals = mkF m 0 #[.val (.int x0), .val (.int x1), .val (.int x2), .val (.int x3), .val (.int x4), .val (.int x5), .unset, .unset, .unset, .unset, .unset, .unset, .unset, .unset, .unset] [] := by first | (simp [entryFrame, mkF, argsToLocals, Value.category, maxLocals]; done) | rfl
theorem own_abs {x : Int32} (h : Small x) : x.toInt.natAbs < 2 ^ 53 := by unfold Small at h; omega
set_option maxRecDepth 65536 in
set_option maxHeartbeats 40000000 in
theorem rm0 (l : Launch) (Z : State) (a0 : Array Value) (hw : ∀ d ∈ tables_1, d.before a0 Z = true) (ws : List Jvm.Cond) (x0 : Int32) (x1 : Int32) (x2 : Int32) (x3 : Int32) (x4 : Int32) (x5 : Int32) (h0 : Heap) : Con l Z x code maxLocals ret ws room_1 #[(.int x0), (.int x1), (.int x2), (.int x3), (.int x4), (.int x5)] h0 (fun v h L => v = some (.int 1) ∧ Fr h0.size L) := by
  refine Con.of pn0 fun p e s m below meth c s₁ hZ hx hby hml hown hret hlk hnm X0 e0 => ?_
  rw [ef0]
  show Go _ _ _ _ (s₁.setTop (mkF m 0 #[.val (.int x0), .val (.int x1), .val (.int x2), .val (.int x3), .val (.int x4), .val (.int x5), .unset, .unset, .unset, .unset, .unset, .unset, .unset, .unset, .unset] []))
  refine Go.step (fun _ k => XS.iloadN X0.here hx rfl (hb hby at_0) rfl k) ?_
  show Go _ _ _ _ (s₁.setTop (mkF m 1 #[.val (.int x0), .val (.int x1), .val (.int x2), .val (.int x3), .val (.int x4), .val (.int x5), .unset, .unset, .unset, .unset, .unset, .unset, .unset, .unset, .unset] [(.int x0)]))
  refine Go.step (fun _ k => XS.bipush X0.here hx rfl (hb hby at_1) k) ?_
  show Go _ _ _ _ (s₁.setTop (mkF m 3 #[.val (.int x0), .val (.int x1), .val (.int x2), .val (.int x3), .val (.int x4), .val (.int x5), .unset, .unset, .unset, .unset, .unset, .unset, .unset, .unset, .unset] [(.int (7 : Int32)), (.int x0)]))
  refine Go.step (fun _ k => XS.ishr X0.here hx rfl (hb hby at_3) rfl k) ?_
  show Go _ _ _ _ (s₁.setTop (mkF m 4 #[.val (.int x0), .val (.int x1), .val (.int x2), .val (.int x3), .val (.int x4), .val (.int x5), .unset, .unset, .unset, .unset, .unset, .unset, .unset, .unset, .unset] [(.int (x0 >>> ((7 : Int32) &&& 31)))]))
  refine Go.step (fun _ k => XS.istore X0.here hx rfl (hb hby at_4) rfl (l' := #[.val (.int x0), .val (.int x1), .val (.int x2), .val (.int x3), .val (.int x4), .val (.int x5), .val (.int (x0 >>> ((7 : Int32) &&& 31))), .unset, .unset, .unset, .unset, .unset, .unset, .unset, .unset]) rfl k) ?_
  show Go _ _ _ _ (s₁.setTop (mkF m 6 #[.val (.int x0), .val (.int x1), .val (.int x2), .val (.int x3), .val (.int x4), .val (.int x5), .val (.int (x0 >>> ((7 : Int32) &&& 31))), .unset, .unset, .unset, .unset, .unset, .unset, .unset, .unset] []))
  refine Go.step (fun _ k => XS.iloadN X0.here hx rfl (hb hby at_6) rfl k) ?_
  show Go _ _ _ _ (s₁.setTop (mkF m 7 #[.val (.int x0), .val (.int x1), .val (.int x2), .val (.int x3), .val (.int x4), .val (.int x5), .val (.int (x0 >>> ((7 : Int32) &&& 31))), .unset, .unset, .unset, .unset, .unset, .unset, .unset, .unset] [(.int x1)]))
  refine Go.step (fun _ k => XS.bipush X0.here hx rfl (hb hby at_7) k) ?_
  show Go _ _ _ _ (s₁.setTop (mkF m 9 #[.val (.int x0), .val (.int x1), .val (.int x2), .val (.int x3), .val (.int x4), .val (.int x5), .val (.int (x0 >>> ((7 : Int32) &&& 31))), .unset, .unset, .unset, .unset, .unset, .unset, .unset, .unset] [(.int (7 : Int32)), (.int x1)]))
  refine Go.step (fun _ k => XS.ishr X0.here hx rfl (hb hby at_9) rfl k) ?_
  show Go _ _ _ _ (s₁.setTop (mkF m 10 #[.val (.int x0), .val (.int x1), .val (.int x2), .val (.int x3), .val (.int x4), .val (.int x5), .val (.int (x0 >>> ((7 : Int32) &&& 31))), .unset, .unset, .unset, .unset, .unset, .unset, .unset, .unset] [(.int (x1 >>> ((7 : Int32) &&& 31)))]))
  refine Go.step (fun _ k => XS.istore X0.here hx rfl (hb hby at_10) rfl (l' := #[.val (.int x0), .val (.int x1), .val (.int x2), .val (.int x3), .val (.int x4), .val (.int x5), .val (.int (x0 >>> ((7 : Int32) &&& 31))), .val (.int (x1 >>> ((7 : Int32) &&& 31))), .unset, .unset, .unset, .unset, .unset, .unset, .unset]) rfl k) ?_
  show Go _ _ _ _ (s₁.setTop (mkF m 12 #[.val (.int x0), .val (.int x1), .val (.int x2), .val (.int x3), .val (.int x4), .val (.int x5), .val (.int (x0 >>> ((7 : Int32) &&& 31))), .val (.int (x1 >>> ((7 : Int32) &&& 31))), .unset, .unset, .unset, .unset, .unset, .unset, .unset] []))
  refine Go.step (fun _ k => XS.iloadN X0.here hx rfl (hb hby at_12) rfl k) ?_
  show Go _ _ _ _ (s₁.setTop (mkF m 13 #[.val (.int x0), .val (.int x1), .val (.int x2), .val (.int x3), .val (.int x4), .val (.int x5), .val (.int (x0 >>> ((7 : Int32) &&& 31))), .val (.int (x1 >>> ((7 : Int32) &&& 31))), .unset, .unset, .unset, .unset, .unset, .unset, .unset] [(.int x2)]))
  refine Go.step (fun _ k => XS.bipush X0.here hx rfl (hb hby at_13) k) ?_
  show Go _ _ _ _ (s₁.setTop (mkF m 15 #[.val (.int x0), .val (.int x1), .val (.int x2), .val (.int x3), .val (.int x4), .val (.int x5), .val (.int (x0 >>> ((7 : Int32) &&& 31))), .val (.int (x1 >>> ((7 : Int32) &&& 31))), .unset, .unset, .unset, .unset, .unset, .unset, .unset] [(.int (7 : Int32)), (.int x2)]))
  refine Go.step (fun _ k => XS.ishr X0.here hx rfl (hb hby at_15) rfl k) ?_
  show Go _ _ _ _ (s₁.setTop (mkF m 16 #[.val (.int x0), .val (.int x1), .val (.int x2), .val (.int x3), .val (.int x4), .val (.int x5), .val (.int (x0 >>> ((7 : Int32) &&& 31))), .val (.int (x1 >>> ((7 : Int32) &&& 31))), .unset, .unset, .unset, .unset, .unset, .unset, .unset] [(.int (x2 >>> ((7 : Int32) &&& 31)))]))
  refine Go.step (fun _ k => XS.istore X0.here hx rfl (hb hby at_16) rfl (l' := #[.val (.int x0), .val (.int x1), .val (.int x2), .val (.int x3), .val (.int x4), .val (.int x5), .val (.int (x0 >>> ((7 : Int32) &&& 31))), .val (.int (x1 >>> ((7 : Int32) &&& 31))), .val (.int (x2 >>> ((7 : Int32) &&& 31))), .unset, .unset, .unset, .unset, .unset, .unset]) rfl k) ?_
  show Go _ _ _ _ (s₁.setTop (mkF m 18 #[.val (.int x0), .val (.int x1), .val (.int x2), .val (.int x3), .val (.int x4), .val (.int x5), .val (.int (x0 >>> ((7 : Int32) &&& 31))), .val (.int (x1 >>> ((7 : Int32) &&& 31))), .val (.int (x2 >>> ((7 : Int32) &&& 31))), .unset, .unset, .unset, .unset, .unset, .unset] []))
  refine Go.step (fun _ k => XS.iloadN X0.here hx rfl (hb hby at_18) rfl k) ?_
  show Go _ _ _ _ (s₁.setTop (mkF m 19 #[.val (.int x0), .val (.int x1), .val (.int x2), .val (.int x3), .val (.int x4), .val (.int x5), .val (.int (x0 >>> ((7 : Int32) &&& 31))), .val (.int (x1 >>> ((7 : Int32) &&& 31))), .val (.int (x2 >>> ((7 : Int32) &&& 31))), .unset, .unset, .unset, .unset, .unset, .unset] [(.int x3)]))
  refine Go.step (fun _ k => XS.bipush X0.here hx rfl (hb hby at_19) k) ?_
  show Go _ _ _ _ (s₁.setTop (mkF m 21 #[.val (.int x0), .val (.int x1), .val (.int x2), .val (.int x3), .val (.int x4), .val (.int x5), .val (.int (x0 >>> ((7 : Int32) &&& 31))), .val (.int (x1 >>> ((7 : Int32) &&& 31))), .val (.int (x2 >>> ((7 : Int32) &&& 31))), .unset, .unset, .unset, .unset, .unset, .unset] [(.int (7 : Int32)), (.int x3)]))
  refine Go.step (fun _ k => XS.ishr X0.here hx rfl (hb hby at_21) rfl k) ?_
  show Go _ _ _ _ (s₁.setTop (mkF m 22 #[.val (.int x0), .val (.int x1), .val (.int x2), .val (.int x3), .val (.int x4), .val (.int x5), .val (.int (x0 >>> ((7 : Int32) &&& 31))), .val (.int (x1 >>> ((7 : Int32) &&& 31))), .val (.int (x2 >>> ((7 : Int32) &&& 31))), .unset, .unset, .unset, .unset, .unset, .unset] [(.int (x3 >>> ((7 : Int32) &&& 31)))]))
  refine Go.step (fun _ k => XS.istore X0.here hx rfl (hb hby at_22) rfl (l' := #[.val (.int x0), .val (.int x1), .val (.int x2), .val (.int x3), .val (.int x4), .val (.int x5), .val (.int (x0 >>> ((7 : Int32) &&& 31))), .val (.int (x1 >>> ((7 : Int32) &&& 31))), .val (.int (x2 >>> ((7 : Int32) &&& 31))), .val (.int (x3 >>> ((7 : Int32) &&& 31))), .unset, .unset, .unset, .unset, .unset]) rfl k) ?_
  show Go _ _ _ _ (s₁.setTop (mkF m 24 #[.val (.int x0), .val (.int x1), .val (.int x2), .val (.int x3), .val (.int x4), .val (.int x5), .val (.int (x0 >>> ((7 : Int32) &&& 31))), .val (.int (x1 >>> ((7 : Int32) &&& 31))), .val (.int (x2 >>> ((7 : Int32) &&& 31))), .val (.int (x3 >>> ((7 : Int32) &&& 31))), .unset, .unset, .unset, .unset, .unset] []))
  refine Go.step (fun _ k => XS.iload X0.here hx rfl (hb hby at_24) rfl k) ?_
  show Go _ _ _ _ (s₁.setTop (mkF m 26 #[.val (.int x0), .val (.int x1), .val (.int x2), .val (.int x3), .val (.int x4), .val (.int x5), .val (.int (x0 >>> ((7 : Int32) &&& 31))), .val (.int (x1 >>> ((7 : Int32) &&& 31))), .val (.int (x2 >>> ((7 : Int32) &&& 31))), .val (.int (x3 >>> ((7 : Int32) &&& 31))), .unset, .unset, .unset, .unset, .unset] [(.int x4)]))
  refine Go.step (fun _ k => XS.bipush X0.here hx rfl (hb hby at_26) k) ?_
  show Go _ _ _ _ (s₁.setTop (mkF m 28 #[.val (.int x0), .val (.int x1), .val (.int x2), .val (.int x3), .val (.int x4), .val (.int x5), .val (.int (x0 >>> ((7 : Int32) &&& 31))), .val (.int (x1 >>> ((7 : Int32) &&& 31))), .val (.int (x2 >>> ((7 : Int32) &&& 31))), .val (.int (x3 >>> ((7 : Int32) &&& 31))), .unset, .unset, .unset, .unset, .unset] [(.int (7 : Int32)), (.int x4)]))
  refine Go.step (fun _ k => XS.ishr X0.here hx rfl (hb hby at_28) rfl k) ?_
  show Go _ _ _ _ (s₁.setTop (mkF m 29 #[.val (.int x0), .val (.int x1), .val (.int x2), .val (.int x3), .val (.int x4), .val (.int x5), .val (.int (x0 >>> ((7 : Int32) &&& 31))), .val (.int (x1 >>> ((7 : Int32) &&& 31))), .val (.int (x2 >>> ((7 : Int32) &&& 31))), .val (.int (x3 >>> ((7 : Int32) &&& 31))), .unset, .unset, .unset, .unset, .unset] [(.int (x4 >>> ((7 : Int32) &&& 31)))]))
  refine Go.step (fun _ k => XS.istore X0.here hx rfl (hb hby at_29) rfl (l' := #[.val (.int x0), .val (.int x1), .val (.int x2), .val (.int x3), .val (.int x4), .val (.int x5), .val (.int (x0 >>> ((7 : Int32) &&& 31))), .val (.int (x1 >>> ((7 : Int32) &&& 31))), .val (.int (x2 >>> ((7 : Int32) &&& 31))), .val (.int (x3 >>> ((7 : Int32) &&& 31))), .val (.int (x4 >>> ((7 : Int32) &&& 31))), .unset, .unset, .unset, .unset]) rfl k) ?_
  show Go _ _ _ _ (s₁.setTop (mkF m 31 #[.val (.int x0), .val (.int x1), .val (.int x2), .val (.int x3), .val (.int x4), .val (.int x5), .val (.int (x0 >>> ((7 : Int32) &&& 31))), .val (.int (x1 >>> ((7 : Int32) &&& 31))), .val (.int (x2 >>> ((7 : Int32) &&& 31))), .val (.int (x3 >>> ((7 : Int32) &&& 31))), .val (.int (x4 >>> ((7 : Int32) &&& 31))), .unset, .unset, .unset, .unset] []))
  refine Go.step (fun _ k => XS.iload X0.here hx rfl (hb hby at_31) rfl k) ?_
  show Go _ _ _ _ (s₁.setTop (mkF m 33 #[.val (.int x0), .val (.int x1), .val (.int x2), .val (.int x3), .val (.int x4), .val (.int x5), .val (.int (x0 >>> ((7 : Int32) &&& 31))), .val (.int (x1 >>> ((7 : Int32) &&& 31))), .val (.int (x2 >>> ((7 : Int32) &&& 31))), .val (.int (x3 >>> ((7 : Int32) &&& 31))), .val (.int (x4 >>> ((7 : Int32) &&& 31))), .unset, .unset, .unset, .unset] [(.int x5)]))
  refine Go.step (fun _ k => XS.bipush X0.here hx rfl (hb hby at_33) k) ?_
  show Go _ _ _ _ (s₁.setTop (mkF m 35 #[.val (.int x0), .val (.int x1), .val (.int x2), .val (.int x3), .val (.int x4), .val (.int x5), .val (.int (x0 >>> ((7 : Int32) &&& 31))), .val (.int (x1 >>> ((7 : Int32) &&& 31))), .val (.int (x2 >>> ((7 : Int32) &&& 31))), .val (.int (x3 >>> ((7 : Int32) &&& 31))), .val (.int (x4 >>> ((7 : Int32) &&& 31))), .unset, .unset, .unset, .unset] [(.int (7 : Int32)), (.int x5)]))
  refine Go.step (fun _ k => XS.ishr X0.here hx rfl (hb hby at_35) rfl k) ?_
  show Go _ _ _ _ (s₁.setTop (mkF m 36 #[.val (.int x0), .val (.int x1), .val (.int x2), .val (.int x3), .val (.int x4), .val (.int x5), .val (.int (x0 >>> ((7 : Int32) &&& 31))), .val (.int (x1 >>> ((7 : Int32) &&& 31))), .val (.int (x2 >>> ((7 : Int32) &&& 31))), .val (.int (x3 >>> ((7 : Int32) &&& 31))), .val (.int (x4 >>> ((7 : Int32) &&& 31))), .unset, .unset, .unset, .unset] [(.int (x5 >>> ((7 : Int32) &&& 31)))]))
  refine Go.step (fun _ k => XS.istore X0.here hx rfl (hb hby at_36) rfl (l' := #[.val (.int x0), .val (.int x1), .val (.int x2), .val (.int x3), .val (.int x4), .val (.int x5), .val (.int (x0 >>> ((7 : Int32) &&& 31))), .val (.int (x1 >>> ((7 : Int32) &&& 31))), .val (.int (x2 >>> ((7 : Int32) &&& 31))), .val (.int (x3 >>> ((7 : Int32) &&& 31))), .val (.int (x4 >>> ((7 : Int32) &&& 31))), .val (.int (x5 >>> ((7 : Int32) &&& 31))), .unset, .unset, .unset]) rfl k) ?_
  show Go _ _ _ _ (s₁.setTop (mkF m 38 #[.val (.int x0), .val (.int x1), .val (.int x2), .val (.int x3), .val (.int x4), .val (.int x5), .val (.int (x0 >>> ((7 : Int32) &&& 31))), .val (.int (x1 >>> ((7 : Int32) &&& 31))), .val (.int (x2 >>> ((7 : Int32) &&& 31))), .val (.int (x3 >>> ((7 : Int32) &&& 31))), .val (.int (x4 >>> ((7 : Int32) &&& 31))), .val (.int (x5 >>> ((7 : Int32) &&& 31))), .unset, .unset, .unset] []))
  obtain ⟨T1, h1, X1, e1, E1, A1, D1, -, st1⟩ := newO X0 hx hZ hown (hw _ (List.mem_of_getElem? (i := 0) rfl)) (hw _ (List.mem_of_getElem? (i := 1) rfl)) (hw _ (List.mem_of_getElem? (i := 2) rfl)) e0 (g := (mkF m 38 #[.val (.int x0), .val (.int x1), .val (.int x2), .val (.int x3), .val (.int x4), .val (.int x5), .val (.int (x0 >>> ((7 : Int32) &&& 31))), .val (.int (x1 >>> ((7 : Int32) &&& 31))), .val (.int (x2 >>> ((7 : Int32) &&& 31))), .val (.int (x3 >>> ((7 : Int32) &&& 31))), .val (.int (x4 >>> ((7 : Int32) &&& 31))), .val (.int (x5 >>> ((7 : Int32) &&& 31))), .unset, .unset, .unset] [])) rfl (hb hby at_38) (by decide) (by decide)
  obtain ⟨b1, g1⟩ : ∃ z, z = h0.size := ⟨_, rfl⟩
  rw [← g1] at A1 D1 st1
  have F1_landingHeight : Fld Z h1 b1 "tesserae/tetris/Features" "landingHeight" "D" (.double 0) := D1 (Or.inr (hw _ (List.mem_of_getElem? (i := 16) rfl))) (ty := .double) (by decide)
  have F1_erodedCells : Fld Z h1 b1 "tesserae/tetris/Features" "erodedCells" "I" (.int (0 : Int32)) := D1 (Or.inr (hw _ (List.mem_of_getElem? (i := 18) rfl))) (ty := .int) (by decide)
  have F1_rowTransitions : Fld Z h1 b1 "tesserae/tetris/Features" "rowTransitions" "I" (.int (0 : Int32)) := D1 (Or.inr (hw _ (List.mem_of_getElem? (i := 20) rfl))) (ty := .int) (by decide)
  have F1_columnTransitions : Fld Z h1 b1 "tesserae/tetris/Features" "columnTransitions" "I" (.int (0 : Int32)) := D1 (Or.inr (hw _ (List.mem_of_getElem? (i := 22) rfl))) (ty := .int) (by decide)
  have F1_holes : Fld Z h1 b1 "tesserae/tetris/Features" "holes" "I" (.int (0 : Int32)) := D1 (Or.inr (hw _ (List.mem_of_getElem? (i := 24) rfl))) (ty := .int) (by decide)
  have F1_wells : Fld Z h1 b1 "tesserae/tetris/Features" "wells" "I" (.int (0 : Int32)) := D1 (Or.inr (hw _ (List.mem_of_getElem? (i := 26) rfl))) (ty := .int) (by decide)
  refine Go.step st1 ?_
  have gb : h0.size ≤ b1 := Nat.le_of_eq g1.symm
  show Go _ _ _ _ (T1.setTop (mkF m 41 #[.val (.int x0), .val (.int x1), .val (.int x2), .val (.int x3), .val (.int x4), .val (.int x5), .val (.int (x0 >>> ((7 : Int32) &&& 31))), .val (.int (x1 >>> ((7 : Int32) &&& 31))), .val (.int (x2 >>> ((7 : Int32) &&& 31))), .val (.int (x3 >>> ((7 : Int32) &&& 31))), .val (.int (x4 >>> ((7 : Int32) &&& 31))), .val (.int (x5 >>> ((7 : Int32) &&& 31))), .unset, .unset, .unset] [(.ref b1)]))
  refine Go.step (fun _ k => XS.dup X1.here hx rfl (hb hby at_41) rfl rfl k) ?_
  show Go _ _ _ _ (T1.setTop (mkF m 42 #[.val (.int x0), .val (.int x1), .val (.int x2), .val (.int x3), .val (.int x4), .val (.int x5), .val (.int (x0 >>> ((7 : Int32) &&& 31))), .val (.int (x1 >>> ((7 : Int32) &&& 31))), .val (.int (x2 >>> ((7 : Int32) &&& 31))), .val (.int (x3 >>> ((7 : Int32) &&& 31))), .val (.int (x4 >>> ((7 : Int32) &&& 31))), .val (.int (x5 >>> ((7 : Int32) &&& 31))), .unset, .unset, .unset] [(.ref b1), (.ref b1)]))
  refine Go.step (fun _ k => XS.iload X1.here hx rfl (hb hby at_42) rfl k) ?_
  show Go _ _ _ _ (T1.setTop (mkF m 44 #[.val (.int x0), .val (.int x1), .val (.int x2), .val (.int x3), .val (.int x4), .val (.int x5), .val (.int (x0 >>> ((7 : Int32) &&& 31))), .val (.int (x1 >>> ((7 : Int32) &&& 31))), .val (.int (x2 >>> ((7 : Int32) &&& 31))), .val (.int (x3 >>> ((7 : Int32) &&& 31))), .val (.int (x4 >>> ((7 : Int32) &&& 31))), .val (.int (x5 >>> ((7 : Int32) &&& 31))), .unset, .unset, .unset] [(.int (x0 >>> ((7 : Int32) &&& 31))), (.ref b1), (.ref b1)]))
  refine Go.step (fun _ k => XS.i2dS X1.here hx rfl (hb hby at_44) rfl rfl k) ?_
  show Go _ _ _ _ (T1.setTop (mkF m 45 #[.val (.int x0), .val (.int x1), .val (.int x2), .val (.int x3), .val (.int x4), .val (.int x5), .val (.int (x0 >>> ((7 : Int32) &&& 31))), .val (.int (x1 >>> ((7 : Int32) &&& 31))), .val (.int (x2 >>> ((7 : Int32) &&& 31))), .val (.int (x3 >>> ((7 : Int32) &&& 31))), .val (.int (x4 >>> ((7 : Int32) &&& 31))), .val (.int (x5 >>> ((7 : Int32) &&& 31))), .unset, .unset, .unset] [(.double (FP.i2d (x0 >>> ((7 : Int32) &&& 31)))), (.ref b1), (.ref b1)]))
  refine Go.step (X1.ldc2DoubleC hx hown (mvT hZ (hw _ (List.mem_of_getElem? (i := 3) rfl))) (g := (mkF m 45 #[.val (.int x0), .val (.int x1), .val (.int x2), .val (.int x3), .val (.int x4), .val (.int x5), .val (.int (x0 >>> ((7 : Int32) &&& 31))), .val (.int (x1 >>> ((7 : Int32) &&& 31))), .val (.int (x2 >>> ((7 : Int32) &&& 31))), .val (.int (x3 >>> ((7 : Int32) &&& 31))), .val (.int (x4 >>> ((7 : Int32) &&& 31))), .val (.int (x5 >>> ((7 : Int32) &&& 31))), .unset, .unset, .unset] [(.double (FP.i2d (x0 >>> ((7 : Int32) &&& 31)))), (.ref b1), (.ref b1)])) rfl (hb hby at_45)) ?_
  show Go _ _ _ _ (T1.setTop (mkF m 48 #[.val (.int x0), .val (.int x1), .val (.int x2), .val (.int x3), .val (.int x4), .val (.int x5), .val (.int (x0 >>> ((7 : Int32) &&& 31))), .val (.int (x1 >>> ((7 : Int32) &&& 31))), .val (.int (x2 >>> ((7 : Int32) &&& 31))), .val (.int (x3 >>> ((7 : Int32) &&& 31))), .val (.int (x4 >>> ((7 : Int32) &&& 31))), .val (.int (x5 >>> ((7 : Int32) &&& 31))), .unset, .unset, .unset] [(.double (4611686018427387904 : UInt64)), (.double (FP.i2d (x0 >>> ((7 : Int32) &&& 31)))), (.ref b1), (.ref b1)]))
  refine Go.step (fun _ k => XS.ddivS X1.here hx rfl (hb hby at_48) rfl (own_over (own_abs (own_small x0)) (Jvm.FP.Core.i2d_int (x0 >>> ((7 : Int32) &&& 31)))).no (v := (FP.ddiv (FP.i2d (x0 >>> ((7 : Int32) &&& 31))) (4611686018427387904 : UInt64))) rfl k) ?_
  show Go _ _ _ _ (T1.setTop (mkF m 49 #[.val (.int x0), .val (.int x1), .val (.int x2), .val (.int x3), .val (.int x4), .val (.int x5), .val (.int (x0 >>> ((7 : Int32) &&& 31))), .val (.int (x1 >>> ((7 : Int32) &&& 31))), .val (.int (x2 >>> ((7 : Int32) &&& 31))), .val (.int (x3 >>> ((7 : Int32) &&& 31))), .val (.int (x4 >>> ((7 : Int32) &&& 31))), .val (.int (x5 >>> ((7 : Int32) &&& 31))), .unset, .unset, .unset] [(.double (FP.ddiv (FP.i2d (x0 >>> ((7 : Int32) &&& 31))) (4611686018427387904 : UInt64))), (.ref b1), (.ref b1)]))
  refine Go.step (fun _ k => XS.iload X1.here hx rfl (hb hby at_49) rfl k) ?_
  show Go _ _ _ _ (T1.setTop (mkF m 51 #[.val (.int x0), .val (.int x1), .val (.int x2), .val (.int x3), .val (.int x4), .val (.int x5), .val (.int (x0 >>> ((7 : Int32) &&& 31))), .val (.int (x1 >>> ((7 : Int32) &&& 31))), .val (.int (x2 >>> ((7 : Int32) &&& 31))), .val (.int (x3 >>> ((7 : Int32) &&& 31))), .val (.int (x4 >>> ((7 : Int32) &&& 31))), .val (.int (x5 >>> ((7 : Int32) &&& 31))), .unset, .unset, .unset] [(.int (x1 >>> ((7 : Int32) &&& 31))), (.double (FP.ddiv (FP.i2d (x0 >>> ((7 : Int32) &&& 31))) (4611686018427387904 : UInt64))), (.ref b1), (.ref b1)]))
  refine Go.step (fun _ k => XS.iload X1.here hx rfl (hb hby at_51) rfl k) ?_
  show Go _ _ _ _ (T1.setTop (mkF m 53 #[.val (.int x0), .val (.int x1), .val (.int x2), .val (.int x3), .val (.int x4), .val (.int x5), .val (.int (x0 >>> ((7 : Int32) &&& 31))), .val (.int (x1 >>> ((7 : Int32) &&& 31))), .val (.int (x2 >>> ((7 : Int32) &&& 31))), .val (.int (x3 >>> ((7 : Int32) &&& 31))), .val (.int (x4 >>> ((7 : Int32) &&& 31))), .val (.int (x5 >>> ((7 : Int32) &&& 31))), .unset, .unset, .unset] [(.int (x2 >>> ((7 : Int32) &&& 31))), (.int (x1 >>> ((7 : Int32) &&& 31))), (.double (FP.ddiv (FP.i2d (x0 >>> ((7 : Int32) &&& 31))) (4611686018427387904 : UInt64))), (.ref b1), (.ref b1)]))
  refine Go.step (fun _ k => XS.iload X1.here hx rfl (hb hby at_53) rfl k) ?_
  show Go _ _ _ _ (T1.setTop (mkF m 55 #[.val (.int x0), .val (.int x1), .val (.int x2), .val (.int x3), .val (.int x4), .val (.int x5), .val (.int (x0 >>> ((7 : Int32) &&& 31))), .val (.int (x1 >>> ((7 : Int32) &&& 31))), .val (.int (x2 >>> ((7 : Int32) &&& 31))), .val (.int (x3 >>> ((7 : Int32) &&& 31))), .val (.int (x4 >>> ((7 : Int32) &&& 31))), .val (.int (x5 >>> ((7 : Int32) &&& 31))), .unset, .unset, .unset] [(.int (x3 >>> ((7 : Int32) &&& 31))), (.int (x2 >>> ((7 : Int32) &&& 31))), (.int (x1 >>> ((7 : Int32) &&& 31))), (.double (FP.ddiv (FP.i2d (x0 >>> ((7 : Int32) &&& 31))) (4611686018427387904 : UInt64))), (.ref b1), (.ref b1)]))
  refine Go.step (fun _ k => XS.iload X1.here hx rfl (hb hby at_55) rfl k) ?_
  show Go _ _ _ _ (T1.setTop (mkF m 57 #[.val (.int x0), .val (.int x1), .val (.int x2), .val (.int x3), .val (.int x4), .val (.int x5), .val (.int (x0 >>> ((7 : Int32) &&& 31))), .val (.int (x1 >>> ((7 : Int32) &&& 31))), .val (.int (x2 >>> ((7 : Int32) &&& 31))), .val (.int (x3 >>> ((7 : Int32) &&& 31))), .val (.int (x4 >>> ((7 : Int32) &&& 31))), .val (.int (x5 >>> ((7 : Int32) &&& 31))), .unset, .unset, .unset] [(.int (x4 >>> ((7 : Int32) &&& 31))), (.int (x3 >>> ((7 : Int32) &&& 31))), (.int (x2 >>> ((7 : Int32) &&& 31))), (.int (x1 >>> ((7 : Int32) &&& 31))), (.double (FP.ddiv (FP.i2d (x0 >>> ((7 : Int32) &&& 31))) (4611686018427387904 : UInt64))), (.ref b1), (.ref b1)]))
  refine Go.step (fun _ k => XS.iload X1.here hx rfl (hb hby at_57) rfl k) ?_
  show Go _ _ _ _ (T1.setTop (mkF m 59 #[.val (.int x0), .val (.int x1), .val (.int x2), .val (.int x3), .val (.int x4), .val (.int x5), .val (.int (x0 >>> ((7 : Int32) &&& 31))), .val (.int (x1 >>> ((7 : Int32) &&& 31))), .val (.int (x2 >>> ((7 : Int32) &&& 31))), .val (.int (x3 >>> ((7 : Int32) &&& 31))), .val (.int (x4 >>> ((7 : Int32) &&& 31))), .val (.int (x5 >>> ((7 : Int32) &&& 31))), .unset, .unset, .unset] [(.int (x5 >>> ((7 : Int32) &&& 31))), (.int (x4 >>> ((7 : Int32) &&& 31))), (.int (x3 >>> ((7 : Int32) &&& 31))), (.int (x2 >>> ((7 : Int32) &&& 31))), (.int (x1 >>> ((7 : Int32) &&& 31))), (.double (FP.ddiv (FP.i2d (x0 >>> ((7 : Int32) &&& 31))) (4611686018427387904 : UInt64))), (.ref b1), (.ref b1)]))
  refine goI X1 hx hZ rfl hown (hw _ (List.mem_of_getElem? (i := 4) rfl)) (hw _ (List.mem_of_getElem? (i := 5) rfl)) (hw _ (List.mem_of_getElem? (i := 2) rfl)) (hw _ (List.mem_of_getElem? (i := 6) rfl)) (by decide) (rm1 l Z a0 hw [] b1 (FP.ddiv (FP.i2d (x0 >>> ((7 : Int32) &&& 31))) (4611686018427387904 : UInt64)) (x1 >>> ((7 : Int32) &&& 31)) (x2 >>> ((7 : Int32) &&& 31)) (x3 >>> ((7 : Int32) &&& 31)) (x4 >>> ((7 : Int32) &&& 31)) (x5 >>> ((7 : Int32) &&& 31)) h1 h0.size gb A1 F1_landingHeight F1_erodedCells F1_rowTransitions F1_columnTransitions F1_holes F1_wells) e1 (by rw [hml]; rfl) b1 [(.double (FP.ddiv (FP.i2d (x0 >>> ((7 : Int32) &&& 31))) (4611686018427387904 : UInt64))), (.int (x1 >>> ((7 : Int32) &&& 31))), (.int (x2 >>> ((7 : Int32) &&& 31))), (.int (x3 >>> ((7 : Int32) &&& 31))), (.int (x4 >>> ((7 : Int32) &&& 31))), (.int (x5 >>> ((7 : Int32) &&& 31)))] [(.ref b1)] rfl pd1 rfl rfl 1 rfl (hb hby at_59) (by decide) (by decide) (by decide) (by decide) fun T2 L2 v2 q2 X2 => ?_
  obtain ⟨rfl, N2, EX2, FX_landingHeight, FX_erodedCells, FX_rowTransitions, FX_columnTransitions, FX_holes, FX_wells⟩ := q2
  show Go _ _ _ _ (T2.setTop (mkF m 62 #[.val (.int x0), .val (.int x1), .val (.int x2), .val (.int x3), .val (.int x4), .val (.int x5), .val (.int (x0 >>> ((7 : Int32) &&& 31))), .val (.int (x1 >>> ((7 : Int32) &&& 31))), .val (.int (x2 >>> ((7 : Int32) &&& 31))), .val (.int (x3 >>> ((7 : Int32) &&& 31))), .val (.int (x4 >>> ((7 : Int32) &&& 31))), .val (.int (x5 >>> ((7 : Int32) &&& 31))), .unset, .unset, .unset] [(.ref b1)]))
  refine Go.step (fun _ k => XS.astore X2.here hx rfl (hb hby at_62) rfl rfl (l' := #[.val (.int x0), .val (.int x1), .val (.int x2), .val (.int x3), .val (.int x4), .val (.int x5), .val (.int (x0 >>> ((7 : Int32) &&& 31))), .val (.int (x1 >>> ((7 : Int32) &&& 31))), .val (.int (x2 >>> ((7 : Int32) &&& 31))), .val (.int (x3 >>> ((7 : Int32) &&& 31))), .val (.int (x4 >>> ((7 : Int32) &&& 31))), .val (.int (x5 >>> ((7 : Int32) &&& 31))), .val (.ref b1), .unset, .unset]) rfl k) ?_
  show Go _ _ _ _ (T2.setTop (mkF m 64 #[.val (.int x0), .val (.int x1), .val (.int x2), .val (.int x3), .val (.int x4), .val (.int x5), .val (.int (x0 >>> ((7 : Int32) &&& 31))), .val (.int (x1 >>> ((7 : Int32) &&& 31))), .val (.int (x2 >>> ((7 : Int32) &&& 31))), .val (.int (x3 >>> ((7 : Int32) &&& 31))), .val (.int (x4 >>> ((7 : Int32) &&& 31))), .val (.int (x5 >>> ((7 : Int32) &&& 31))), .val (.ref b1), .unset, .unset] []))
  refine Go.step (X2.ldc2Long hx hown (mvT hZ (hw _ (List.mem_of_getElem? (i := 27) rfl))) (g := (mkF m 64 #[.val (.int x0), .val (.int x1), .val (.int x2), .val (.int x3), .val (.int x4), .val (.int x5), .val (.int (x0 >>> ((7 : Int32) &&& 31))), .val (.int (x1 >>> ((7 : Int32) &&& 31))), .val (.int (x2 >>> ((7 : Int32) &&& 31))), .val (.int (x3 >>> ((7 : Int32) &&& 31))), .val (.int (x4 >>> ((7 : Int32) &&& 31))), .val (.int (x5 >>> ((7 : Int32) &&& 31))), .val (.ref b1), .unset, .unset] [])) rfl (hb hby at_64)) ?_
  show Go _ _ _ _ (T2.setTop (mkF m 67 #[.val (.int x0), .val (.int x1), .val (.int x2), .val (.int x3), .val (.int x4), .val (.int x5), .val (.int (x0 >>> ((7 : Int32) &&& 31))), .val (.int (x1 >>> ((7 : Int32) &&& 31))), .val (.int (x2 >>> ((7 : Int32) &&& 31))), .val (.int (x3 >>> ((7 : Int32) &&& 31))), .val (.int (x4 >>> ((7 : Int32) &&& 31))), .val (.int (x5 >>> ((7 : Int32) &&& 31))), .val (.ref b1), .unset, .unset] [(.long (-45 : Int64))]))
  refine Go.step (fun _ k => XS.iload X2.here hx rfl (hb hby at_67) rfl k) ?_
  show Go _ _ _ _ (T2.setTop (mkF m 69 #[.val (.int x0), .val (.int x1), .val (.int x2), .val (.int x3), .val (.int x4), .val (.int x5), .val (.int (x0 >>> ((7 : Int32) &&& 31))), .val (.int (x1 >>> ((7 : Int32) &&& 31))), .val (.int (x2 >>> ((7 : Int32) &&& 31))), .val (.int (x3 >>> ((7 : Int32) &&& 31))), .val (.int (x4 >>> ((7 : Int32) &&& 31))), .val (.int (x5 >>> ((7 : Int32) &&& 31))), .val (.ref b1), .unset, .unset] [(.int (x0 >>> ((7 : Int32) &&& 31))), (.long (-45 : Int64))]))
  refine Go.step (fun _ k => XS.i2l X2.here hx rfl (hb hby at_69) rfl k) ?_
  show Go _ _ _ _ (T2.setTop (mkF m 70 #[.val (.int x0), .val (.int x1), .val (.int x2), .val (.int x3), .val (.int x4), .val (.int x5), .val (.int (x0 >>> ((7 : Int32) &&& 31))), .val (.int (x1 >>> ((7 : Int32) &&& 31))), .val (.int (x2 >>> ((7 : Int32) &&& 31))), .val (.int (x3 >>> ((7 : Int32) &&& 31))), .val (.int (x4 >>> ((7 : Int32) &&& 31))), .val (.int (x5 >>> ((7 : Int32) &&& 31))), .val (.ref b1), .unset, .unset] [(.long ((x0 >>> ((7 : Int32) &&& 31)).toInt64)), (.long (-45 : Int64))]))
  refine Go.step (fun _ k => XS.lmul X2.here hx rfl (hb hby at_70) rfl k) ?_
  show Go _ _ _ _ (T2.setTop (mkF m 71 #[.val (.int x0), .val (.int x1), .val (.int x2), .val (.int x3), .val (.int x4), .val (.int x5), .val (.int (x0 >>> ((7 : Int32) &&& 31))), .val (.int (x1 >>> ((7 : Int32) &&& 31))), .val (.int (x2 >>> ((7 : Int32) &&& 31))), .val (.int (x3 >>> ((7 : Int32) &&& 31))), .val (.int (x4 >>> ((7 : Int32) &&& 31))), .val (.int (x5 >>> ((7 : Int32) &&& 31))), .val (.ref b1), .unset, .unset] [(.long ((-45 : Int64) * ((x0 >>> ((7 : Int32) &&& 31)).toInt64)))]))
  refine Go.step (X2.ldc2Long hx hown (mvT hZ (hw _ (List.mem_of_getElem? (i := 28) rfl))) (g := (mkF m 71 #[.val (.int x0), .val (.int x1), .val (.int x2), .val (.int x3), .val (.int x4), .val (.int x5), .val (.int (x0 >>> ((7 : Int32) &&& 31))), .val (.int (x1 >>> ((7 : Int32) &&& 31))), .val (.int (x2 >>> ((7 : Int32) &&& 31))), .val (.int (x3 >>> ((7 : Int32) &&& 31))), .val (.int (x4 >>> ((7 : Int32) &&& 31))), .val (.int (x5 >>> ((7 : Int32) &&& 31))), .val (.ref b1), .unset, .unset] [(.long ((-45 : Int64) * ((x0 >>> ((7 : Int32) &&& 31)).toInt64)))])) rfl (hb hby at_71)) ?_
  show Go _ _ _ _ (T2.setTop (mkF m 74 #[.val (.int x0), .val (.int x1), .val (.int x2), .val (.int x3), .val (.int x4), .val (.int x5), .val (.int (x0 >>> ((7 : Int32) &&& 31))), .val (.int (x1 >>> ((7 : Int32) &&& 31))), .val (.int (x2 >>> ((7 : Int32) &&& 31))), .val (.int (x3 >>> ((7 : Int32) &&& 31))), .val (.int (x4 >>> ((7 : Int32) &&& 31))), .val (.int (x5 >>> ((7 : Int32) &&& 31))), .val (.ref b1), .unset, .unset] [(.long (68 : Int64)), (.long ((-45 : Int64) * ((x0 >>> ((7 : Int32) &&& 31)).toInt64)))]))
  refine Go.step (fun _ k => XS.iload X2.here hx rfl (hb hby at_74) rfl k) ?_
  show Go _ _ _ _ (T2.setTop (mkF m 76 #[.val (.int x0), .val (.int x1), .val (.int x2), .val (.int x3), .val (.int x4), .val (.int x5), .val (.int (x0 >>> ((7 : Int32) &&& 31))), .val (.int (x1 >>> ((7 : Int32) &&& 31))), .val (.int (x2 >>> ((7 : Int32) &&& 31))), .val (.int (x3 >>> ((7 : Int32) &&& 31))), .val (.int (x4 >>> ((7 : Int32) &&& 31))), .val (.int (x5 >>> ((7 : Int32) &&& 31))), .val (.ref b1), .unset, .unset] [(.int (x1 >>> ((7 : Int32) &&& 31))), (.long (68 : Int64)), (.long ((-45 : Int64) * ((x0 >>> ((7 : Int32) &&& 31)).toInt64)))]))
  refine Go.step (fun _ k => XS.i2l X2.here hx rfl (hb hby at_76) rfl k) ?_
  show Go _ _ _ _ (T2.setTop (mkF m 77 #[.val (.int x0), .val (.int x1), .val (.int x2), .val (.int x3), .val (.int x4), .val (.int x5), .val (.int (x0 >>> ((7 : Int32) &&& 31))), .val (.int (x1 >>> ((7 : Int32) &&& 31))), .val (.int (x2 >>> ((7 : Int32) &&& 31))), .val (.int (x3 >>> ((7 : Int32) &&& 31))), .val (.int (x4 >>> ((7 : Int32) &&& 31))), .val (.int (x5 >>> ((7 : Int32) &&& 31))), .val (.ref b1), .unset, .unset] [(.long ((x1 >>> ((7 : Int32) &&& 31)).toInt64)), (.long (68 : Int64)), (.long ((-45 : Int64) * ((x0 >>> ((7 : Int32) &&& 31)).toInt64)))]))
  refine Go.step (fun _ k => XS.lmul X2.here hx rfl (hb hby at_77) rfl k) ?_
  show Go _ _ _ _ (T2.setTop (mkF m 78 #[.val (.int x0), .val (.int x1), .val (.int x2), .val (.int x3), .val (.int x4), .val (.int x5), .val (.int (x0 >>> ((7 : Int32) &&& 31))), .val (.int (x1 >>> ((7 : Int32) &&& 31))), .val (.int (x2 >>> ((7 : Int32) &&& 31))), .val (.int (x3 >>> ((7 : Int32) &&& 31))), .val (.int (x4 >>> ((7 : Int32) &&& 31))), .val (.int (x5 >>> ((7 : Int32) &&& 31))), .val (.ref b1), .unset, .unset] [(.long ((68 : Int64) * ((x1 >>> ((7 : Int32) &&& 31)).toInt64))), (.long ((-45 : Int64) * ((x0 >>> ((7 : Int32) &&& 31)).toInt64)))]))
  refine Go.step (fun _ k => XS.ladd X2.here hx rfl (hb hby at_78) rfl k) ?_
  show Go _ _ _ _ (T2.setTop (mkF m 79 #[.val (.int x0), .val (.int x1), .val (.int x2), .val (.int x3), .val (.int x4), .val (.int x5), .val (.int (x0 >>> ((7 : Int32) &&& 31))), .val (.int (x1 >>> ((7 : Int32) &&& 31))), .val (.int (x2 >>> ((7 : Int32) &&& 31))), .val (.int (x3 >>> ((7 : Int32) &&& 31))), .val (.int (x4 >>> ((7 : Int32) &&& 31))), .val (.int (x5 >>> ((7 : Int32) &&& 31))), .val (.ref b1), .unset, .unset] [(.long (((-45 : Int64) * ((x0 >>> ((7 : Int32) &&& 31)).toInt64)) + ((68 : Int64) * ((x1 >>> ((7 : Int32) &&& 31)).toInt64))))]))
  refine Go.step (X2.ldc2Long hx hown (mvT hZ (hw _ (List.mem_of_getElem? (i := 29) rfl))) (g := (mkF m 79 #[.val (.int x0), .val (.int x1), .val (.int x2), .val (.int x3), .val (.int x4), .val (.int x5), .val (.int (x0 >>> ((7 : Int32) &&& 31))), .val (.int (x1 >>> ((7 : Int32) &&& 31))), .val (.int (x2 >>> ((7 : Int32) &&& 31))), .val (.int (x3 >>> ((7 : Int32) &&& 31))), .val (.int (x4 >>> ((7 : Int32) &&& 31))), .val (.int (x5 >>> ((7 : Int32) &&& 31))), .val (.ref b1), .unset, .unset] [(.long (((-45 : Int64) * ((x0 >>> ((7 : Int32) &&& 31)).toInt64)) + ((68 : Int64) * ((x1 >>> ((7 : Int32) &&& 31)).toInt64))))])) rfl (hb hby at_79)) ?_
  show Go _ _ _ _ (T2.setTop (mkF m 82 #[.val (.int x0), .val (.int x1), .val (.int x2), .val (.int x3), .val (.int x4), .val (.int x5), .val (.int (x0 >>> ((7 : Int32) &&& 31))), .val (.int (x1 >>> ((7 : Int32) &&& 31))), .val (.int (x2 >>> ((7 : Int32) &&& 31))), .val (.int (x3 >>> ((7 : Int32) &&& 31))), .val (.int (x4 >>> ((7 : Int32) &&& 31))), .val (.int (x5 >>> ((7 : Int32) &&& 31))), .val (.ref b1), .unset, .unset] [(.long (64 : Int64)), (.long (((-45 : Int64) * ((x0 >>> ((7 : Int32) &&& 31)).toInt64)) + ((68 : Int64) * ((x1 >>> ((7 : Int32) &&& 31)).toInt64))))]))
  refine Go.step (fun _ k => XS.iload X2.here hx rfl (hb hby at_82) rfl k) ?_
  show Go _ _ _ _ (T2.setTop (mkF m 84 #[.val (.int x0), .val (.int x1), .val (.int x2), .val (.int x3), .val (.int x4), .val (.int x5), .val (.int (x0 >>> ((7 : Int32) &&& 31))), .val (.int (x1 >>> ((7 : Int32) &&& 31))), .val (.int (x2 >>> ((7 : Int32) &&& 31))), .val (.int (x3 >>> ((7 : Int32) &&& 31))), .val (.int (x4 >>> ((7 : Int32) &&& 31))), .val (.int (x5 >>> ((7 : Int32) &&& 31))), .val (.ref b1), .unset, .unset] [(.int (x2 >>> ((7 : Int32) &&& 31))), (.long (64 : Int64)), (.long (((-45 : Int64) * ((x0 >>> ((7 : Int32) &&& 31)).toInt64)) + ((68 : Int64) * ((x1 >>> ((7 : Int32) &&& 31)).toInt64))))]))
  refine Go.step (fun _ k => XS.i2l X2.here hx rfl (hb hby at_84) rfl k) ?_
  show Go _ _ _ _ (T2.setTop (mkF m 85 #[.val (.int x0), .val (.int x1), .val (.int x2), .val (.int x3), .val (.int x4), .val (.int x5), .val (.int (x0 >>> ((7 : Int32) &&& 31))), .val (.int (x1 >>> ((7 : Int32) &&& 31))), .val (.int (x2 >>> ((7 : Int32) &&& 31))), .val (.int (x3 >>> ((7 : Int32) &&& 31))), .val (.int (x4 >>> ((7 : Int32) &&& 31))), .val (.int (x5 >>> ((7 : Int32) &&& 31))), .val (.ref b1), .unset, .unset] [(.long ((x2 >>> ((7 : Int32) &&& 31)).toInt64)), (.long (64 : Int64)), (.long (((-45 : Int64) * ((x0 >>> ((7 : Int32) &&& 31)).toInt64)) + ((68 : Int64) * ((x1 >>> ((7 : Int32) &&& 31)).toInt64))))]))
  refine Go.step (fun _ k => XS.lmul X2.here hx rfl (hb hby at_85) rfl k) ?_
  show Go _ _ _ _ (T2.setTop (mkF m 86 #[.val (.int x0), .val (.int x1), .val (.int x2), .val (.int x3), .val (.int x4), .val (.int x5), .val (.int (x0 >>> ((7 : Int32) &&& 31))), .val (.int (x1 >>> ((7 : Int32) &&& 31))), .val (.int (x2 >>> ((7 : Int32) &&& 31))), .val (.int (x3 >>> ((7 : Int32) &&& 31))), .val (.int (x4 >>> ((7 : Int32) &&& 31))), .val (.int (x5 >>> ((7 : Int32) &&& 31))), .val (.ref b1), .unset, .unset] [(.long ((64 : Int64) * ((x2 >>> ((7 : Int32) &&& 31)).toInt64))), (.long (((-45 : Int64) * ((x0 >>> ((7 : Int32) &&& 31)).toInt64)) + ((68 : Int64) * ((x1 >>> ((7 : Int32) &&& 31)).toInt64))))]))
  refine Go.step (fun _ k => XS.lsub X2.here hx rfl (hb hby at_86) rfl k) ?_
  show Go _ _ _ _ (T2.setTop (mkF m 87 #[.val (.int x0), .val (.int x1), .val (.int x2), .val (.int x3), .val (.int x4), .val (.int x5), .val (.int (x0 >>> ((7 : Int32) &&& 31))), .val (.int (x1 >>> ((7 : Int32) &&& 31))), .val (.int (x2 >>> ((7 : Int32) &&& 31))), .val (.int (x3 >>> ((7 : Int32) &&& 31))), .val (.int (x4 >>> ((7 : Int32) &&& 31))), .val (.int (x5 >>> ((7 : Int32) &&& 31))), .val (.ref b1), .unset, .unset] [(.long ((((-45 : Int64) * ((x0 >>> ((7 : Int32) &&& 31)).toInt64)) + ((68 : Int64) * ((x1 >>> ((7 : Int32) &&& 31)).toInt64))) - ((64 : Int64) * ((x2 >>> ((7 : Int32) &&& 31)).toInt64))))]))
  refine Go.step (X2.ldc2Long hx hown (mvT hZ (hw _ (List.mem_of_getElem? (i := 30) rfl))) (g := (mkF m 87 #[.val (.int x0), .val (.int x1), .val (.int x2), .val (.int x3), .val (.int x4), .val (.int x5), .val (.int (x0 >>> ((7 : Int32) &&& 31))), .val (.int (x1 >>> ((7 : Int32) &&& 31))), .val (.int (x2 >>> ((7 : Int32) &&& 31))), .val (.int (x3 >>> ((7 : Int32) &&& 31))), .val (.int (x4 >>> ((7 : Int32) &&& 31))), .val (.int (x5 >>> ((7 : Int32) &&& 31))), .val (.ref b1), .unset, .unset] [(.long ((((-45 : Int64) * ((x0 >>> ((7 : Int32) &&& 31)).toInt64)) + ((68 : Int64) * ((x1 >>> ((7 : Int32) &&& 31)).toInt64))) - ((64 : Int64) * ((x2 >>> ((7 : Int32) &&& 31)).toInt64))))])) rfl (hb hby at_87)) ?_
  show Go _ _ _ _ (T2.setTop (mkF m 90 #[.val (.int x0), .val (.int x1), .val (.int x2), .val (.int x3), .val (.int x4), .val (.int x5), .val (.int (x0 >>> ((7 : Int32) &&& 31))), .val (.int (x1 >>> ((7 : Int32) &&& 31))), .val (.int (x2 >>> ((7 : Int32) &&& 31))), .val (.int (x3 >>> ((7 : Int32) &&& 31))), .val (.int (x4 >>> ((7 : Int32) &&& 31))), .val (.int (x5 >>> ((7 : Int32) &&& 31))), .val (.ref b1), .unset, .unset] [(.long (186 : Int64)), (.long ((((-45 : Int64) * ((x0 >>> ((7 : Int32) &&& 31)).toInt64)) + ((68 : Int64) * ((x1 >>> ((7 : Int32) &&& 31)).toInt64))) - ((64 : Int64) * ((x2 >>> ((7 : Int32) &&& 31)).toInt64))))]))
  refine Go.step (fun _ k => XS.iload X2.here hx rfl (hb hby at_90) rfl k) ?_
  show Go _ _ _ _ (T2.setTop (mkF m 92 #[.val (.int x0), .val (.int x1), .val (.int x2), .val (.int x3), .val (.int x4), .val (.int x5), .val (.int (x0 >>> ((7 : Int32) &&& 31))), .val (.int (x1 >>> ((7 : Int32) &&& 31))), .val (.int (x2 >>> ((7 : Int32) &&& 31))), .val (.int (x3 >>> ((7 : Int32) &&& 31))), .val (.int (x4 >>> ((7 : Int32) &&& 31))), .val (.int (x5 >>> ((7 : Int32) &&& 31))), .val (.ref b1), .unset, .unset] [(.int (x3 >>> ((7 : Int32) &&& 31))), (.long (186 : Int64)), (.long ((((-45 : Int64) * ((x0 >>> ((7 : Int32) &&& 31)).toInt64)) + ((68 : Int64) * ((x1 >>> ((7 : Int32) &&& 31)).toInt64))) - ((64 : Int64) * ((x2 >>> ((7 : Int32) &&& 31)).toInt64))))]))
  refine Go.step (fun _ k => XS.i2l X2.here hx rfl (hb hby at_92) rfl k) ?_
  show Go _ _ _ _ (T2.setTop (mkF m 93 #[.val (.int x0), .val (.int x1), .val (.int x2), .val (.int x3), .val (.int x4), .val (.int x5), .val (.int (x0 >>> ((7 : Int32) &&& 31))), .val (.int (x1 >>> ((7 : Int32) &&& 31))), .val (.int (x2 >>> ((7 : Int32) &&& 31))), .val (.int (x3 >>> ((7 : Int32) &&& 31))), .val (.int (x4 >>> ((7 : Int32) &&& 31))), .val (.int (x5 >>> ((7 : Int32) &&& 31))), .val (.ref b1), .unset, .unset] [(.long ((x3 >>> ((7 : Int32) &&& 31)).toInt64)), (.long (186 : Int64)), (.long ((((-45 : Int64) * ((x0 >>> ((7 : Int32) &&& 31)).toInt64)) + ((68 : Int64) * ((x1 >>> ((7 : Int32) &&& 31)).toInt64))) - ((64 : Int64) * ((x2 >>> ((7 : Int32) &&& 31)).toInt64))))]))
  refine Go.step (fun _ k => XS.lmul X2.here hx rfl (hb hby at_93) rfl k) ?_
  show Go _ _ _ _ (T2.setTop (mkF m 94 #[.val (.int x0), .val (.int x1), .val (.int x2), .val (.int x3), .val (.int x4), .val (.int x5), .val (.int (x0 >>> ((7 : Int32) &&& 31))), .val (.int (x1 >>> ((7 : Int32) &&& 31))), .val (.int (x2 >>> ((7 : Int32) &&& 31))), .val (.int (x3 >>> ((7 : Int32) &&& 31))), .val (.int (x4 >>> ((7 : Int32) &&& 31))), .val (.int (x5 >>> ((7 : Int32) &&& 31))), .val (.ref b1), .unset, .unset] [(.long ((186 : Int64) * ((x3 >>> ((7 : Int32) &&& 31)).toInt64))), (.long ((((-45 : Int64) * ((x0 >>> ((7 : Int32) &&& 31)).toInt64)) + ((68 : Int64) * ((x1 >>> ((7 : Int32) &&& 31)).toInt64))) - ((64 : Int64) * ((x2 >>> ((7 : Int32) &&& 31)).toInt64))))]))
  refine Go.step (fun _ k => XS.lsub X2.here hx rfl (hb hby at_94) rfl k) ?_
  show Go _ _ _ _ (T2.setTop (mkF m 95 #[.val (.int x0), .val (.int x1), .val (.int x2), .val (.int x3), .val (.int x4), .val (.int x5), .val (.int (x0 >>> ((7 : Int32) &&& 31))), .val (.int (x1 >>> ((7 : Int32) &&& 31))), .val (.int (x2 >>> ((7 : Int32) &&& 31))), .val (.int (x3 >>> ((7 : Int32) &&& 31))), .val (.int (x4 >>> ((7 : Int32) &&& 31))), .val (.int (x5 >>> ((7 : Int32) &&& 31))), .val (.ref b1), .unset, .unset] [(.long (((((-45 : Int64) * ((x0 >>> ((7 : Int32) &&& 31)).toInt64)) + ((68 : Int64) * ((x1 >>> ((7 : Int32) &&& 31)).toInt64))) - ((64 : Int64) * ((x2 >>> ((7 : Int32) &&& 31)).toInt64))) - ((186 : Int64) * ((x3 >>> ((7 : Int32) &&& 31)).toInt64))))]))
  refine Go.step (X2.ldc2Long hx hown (mvT hZ (hw _ (List.mem_of_getElem? (i := 31) rfl))) (g := (mkF m 95 #[.val (.int x0), .val (.int x1), .val (.int x2), .val (.int x3), .val (.int x4), .val (.int x5), .val (.int (x0 >>> ((7 : Int32) &&& 31))), .val (.int (x1 >>> ((7 : Int32) &&& 31))), .val (.int (x2 >>> ((7 : Int32) &&& 31))), .val (.int (x3 >>> ((7 : Int32) &&& 31))), .val (.int (x4 >>> ((7 : Int32) &&& 31))), .val (.int (x5 >>> ((7 : Int32) &&& 31))), .val (.ref b1), .unset, .unset] [(.long (((((-45 : Int64) * ((x0 >>> ((7 : Int32) &&& 31)).toInt64)) + ((68 : Int64) * ((x1 >>> ((7 : Int32) &&& 31)).toInt64))) - ((64 : Int64) * ((x2 >>> ((7 : Int32) &&& 31)).toInt64))) - ((186 : Int64) * ((x3 >>> ((7 : Int32) &&& 31)).toInt64))))])) rfl (hb hby at_95)) ?_
  show Go _ _ _ _ (T2.setTop (mkF m 98 #[.val (.int x0), .val (.int x1), .val (.int x2), .val (.int x3), .val (.int x4), .val (.int x5), .val (.int (x0 >>> ((7 : Int32) &&& 31))), .val (.int (x1 >>> ((7 : Int32) &&& 31))), .val (.int (x2 >>> ((7 : Int32) &&& 31))), .val (.int (x3 >>> ((7 : Int32) &&& 31))), .val (.int (x4 >>> ((7 : Int32) &&& 31))), .val (.int (x5 >>> ((7 : Int32) &&& 31))), .val (.ref b1), .unset, .unset] [(.long (158 : Int64)), (.long (((((-45 : Int64) * ((x0 >>> ((7 : Int32) &&& 31)).toInt64)) + ((68 : Int64) * ((x1 >>> ((7 : Int32) &&& 31)).toInt64))) - ((64 : Int64) * ((x2 >>> ((7 : Int32) &&& 31)).toInt64))) - ((186 : Int64) * ((x3 >>> ((7 : Int32) &&& 31)).toInt64))))]))
  refine Go.step (fun _ k => XS.iload X2.here hx rfl (hb hby at_98) rfl k) ?_
  show Go _ _ _ _ (T2.setTop (mkF m 100 #[.val (.int x0), .val (.int x1), .val (.int x2), .val (.int x3), .val (.int x4), .val (.int x5), .val (.int (x0 >>> ((7 : Int32) &&& 31))), .val (.int (x1 >>> ((7 : Int32) &&& 31))), .val (.int (x2 >>> ((7 : Int32) &&& 31))), .val (.int (x3 >>> ((7 : Int32) &&& 31))), .val (.int (x4 >>> ((7 : Int32) &&& 31))), .val (.int (x5 >>> ((7 : Int32) &&& 31))), .val (.ref b1), .unset, .unset] [(.int (x4 >>> ((7 : Int32) &&& 31))), (.long (158 : Int64)), (.long (((((-45 : Int64) * ((x0 >>> ((7 : Int32) &&& 31)).toInt64)) + ((68 : Int64) * ((x1 >>> ((7 : Int32) &&& 31)).toInt64))) - ((64 : Int64) * ((x2 >>> ((7 : Int32) &&& 31)).toInt64))) - ((186 : Int64) * ((x3 >>> ((7 : Int32) &&& 31)).toInt64))))]))
  refine Go.step (fun _ k => XS.i2l X2.here hx rfl (hb hby at_100) rfl k) ?_
  show Go _ _ _ _ (T2.setTop (mkF m 101 #[.val (.int x0), .val (.int x1), .val (.int x2), .val (.int x3), .val (.int x4), .val (.int x5), .val (.int (x0 >>> ((7 : Int32) &&& 31))), .val (.int (x1 >>> ((7 : Int32) &&& 31))), .val (.int (x2 >>> ((7 : Int32) &&& 31))), .val (.int (x3 >>> ((7 : Int32) &&& 31))), .val (.int (x4 >>> ((7 : Int32) &&& 31))), .val (.int (x5 >>> ((7 : Int32) &&& 31))), .val (.ref b1), .unset, .unset] [(.long ((x4 >>> ((7 : Int32) &&& 31)).toInt64)), (.long (158 : Int64)), (.long (((((-45 : Int64) * ((x0 >>> ((7 : Int32) &&& 31)).toInt64)) + ((68 : Int64) * ((x1 >>> ((7 : Int32) &&& 31)).toInt64))) - ((64 : Int64) * ((x2 >>> ((7 : Int32) &&& 31)).toInt64))) - ((186 : Int64) * ((x3 >>> ((7 : Int32) &&& 31)).toInt64))))]))
  refine Go.step (fun _ k => XS.lmul X2.here hx rfl (hb hby at_101) rfl k) ?_
  show Go _ _ _ _ (T2.setTop (mkF m 102 #[.val (.int x0), .val (.int x1), .val (.int x2), .val (.int x3), .val (.int x4), .val (.int x5), .val (.int (x0 >>> ((7 : Int32) &&& 31))), .val (.int (x1 >>> ((7 : Int32) &&& 31))), .val (.int (x2 >>> ((7 : Int32) &&& 31))), .val (.int (x3 >>> ((7 : Int32) &&& 31))), .val (.int (x4 >>> ((7 : Int32) &&& 31))), .val (.int (x5 >>> ((7 : Int32) &&& 31))), .val (.ref b1), .unset, .unset] [(.long ((158 : Int64) * ((x4 >>> ((7 : Int32) &&& 31)).toInt64))), (.long (((((-45 : Int64) * ((x0 >>> ((7 : Int32) &&& 31)).toInt64)) + ((68 : Int64) * ((x1 >>> ((7 : Int32) &&& 31)).toInt64))) - ((64 : Int64) * ((x2 >>> ((7 : Int32) &&& 31)).toInt64))) - ((186 : Int64) * ((x3 >>> ((7 : Int32) &&& 31)).toInt64))))]))
  refine Go.step (fun _ k => XS.lsub X2.here hx rfl (hb hby at_102) rfl k) ?_
  show Go _ _ _ _ (T2.setTop (mkF m 103 #[.val (.int x0), .val (.int x1), .val (.int x2), .val (.int x3), .val (.int x4), .val (.int x5), .val (.int (x0 >>> ((7 : Int32) &&& 31))), .val (.int (x1 >>> ((7 : Int32) &&& 31))), .val (.int (x2 >>> ((7 : Int32) &&& 31))), .val (.int (x3 >>> ((7 : Int32) &&& 31))), .val (.int (x4 >>> ((7 : Int32) &&& 31))), .val (.int (x5 >>> ((7 : Int32) &&& 31))), .val (.ref b1), .unset, .unset] [(.long ((((((-45 : Int64) * ((x0 >>> ((7 : Int32) &&& 31)).toInt64)) + ((68 : Int64) * ((x1 >>> ((7 : Int32) &&& 31)).toInt64))) - ((64 : Int64) * ((x2 >>> ((7 : Int32) &&& 31)).toInt64))) - ((186 : Int64) * ((x3 >>> ((7 : Int32) &&& 31)).toInt64))) - ((158 : Int64) * ((x4 >>> ((7 : Int32) &&& 31)).toInt64))))]))
  refine Go.step (X2.ldc2Long hx hown (mvT hZ (hw _ (List.mem_of_getElem? (i := 28) rfl))) (g := (mkF m 103 #[.val (.int x0), .val (.int x1), .val (.int x2), .val (.int x3), .val (.int x4), .val (.int x5), .val (.int (x0 >>> ((7 : Int32) &&& 31))), .val (.int (x1 >>> ((7 : Int32) &&& 31))), .val (.int (x2 >>> ((7 : Int32) &&& 31))), .val (.int (x3 >>> ((7 : Int32) &&& 31))), .val (.int (x4 >>> ((7 : Int32) &&& 31))), .val (.int (x5 >>> ((7 : Int32) &&& 31))), .val (.ref b1), .unset, .unset] [(.long ((((((-45 : Int64) * ((x0 >>> ((7 : Int32) &&& 31)).toInt64)) + ((68 : Int64) * ((x1 >>> ((7 : Int32) &&& 31)).toInt64))) - ((64 : Int64) * ((x2 >>> ((7 : Int32) &&& 31)).toInt64))) - ((186 : Int64) * ((x3 >>> ((7 : Int32) &&& 31)).toInt64))) - ((158 : Int64) * ((x4 >>> ((7 : Int32) &&& 31)).toInt64))))])) rfl (hb hby at_103)) ?_
  show Go _ _ _ _ (T2.setTop (mkF m 106 #[.val (.int x0), .val (.int x1), .val (.int x2), .val (.int x3), .val (.int x4), .val (.int x5), .val (.int (x0 >>> ((7 : Int32) &&& 31))), .val (.int (x1 >>> ((7 : Int32) &&& 31))), .val (.int (x2 >>> ((7 : Int32) &&& 31))), .val (.int (x3 >>> ((7 : Int32) &&& 31))), .val (.int (x4 >>> ((7 : Int32) &&& 31))), .val (.int (x5 >>> ((7 : Int32) &&& 31))), .val (.ref b1), .unset, .unset] [(.long (68 : Int64)), (.long ((((((-45 : Int64) * ((x0 >>> ((7 : Int32) &&& 31)).toInt64)) + ((68 : Int64) * ((x1 >>> ((7 : Int32) &&& 31)).toInt64))) - ((64 : Int64) * ((x2 >>> ((7 : Int32) &&& 31)).toInt64))) - ((186 : Int64) * ((x3 >>> ((7 : Int32) &&& 31)).toInt64))) - ((158 : Int64) * ((x4 >>> ((7 : Int32) &&& 31)).toInt64))))]))
  refine Go.step (fun _ k => XS.iload X2.here hx rfl (hb hby at_106) rfl k) ?_
  show Go _ _ _ _ (T2.setTop (mkF m 108 #[.val (.int x0), .val (.int x1), .val (.int x2), .val (.int x3), .val (.int x4), .val (.int x5), .val (.int (x0 >>> ((7 : Int32) &&& 31))), .val (.int (x1 >>> ((7 : Int32) &&& 31))), .val (.int (x2 >>> ((7 : Int32) &&& 31))), .val (.int (x3 >>> ((7 : Int32) &&& 31))), .val (.int (x4 >>> ((7 : Int32) &&& 31))), .val (.int (x5 >>> ((7 : Int32) &&& 31))), .val (.ref b1), .unset, .unset] [(.int (x5 >>> ((7 : Int32) &&& 31))), (.long (68 : Int64)), (.long ((((((-45 : Int64) * ((x0 >>> ((7 : Int32) &&& 31)).toInt64)) + ((68 : Int64) * ((x1 >>> ((7 : Int32) &&& 31)).toInt64))) - ((64 : Int64) * ((x2 >>> ((7 : Int32) &&& 31)).toInt64))) - ((186 : Int64) * ((x3 >>> ((7 : Int32) &&& 31)).toInt64))) - ((158 : Int64) * ((x4 >>> ((7 : Int32) &&& 31)).toInt64))))]))
  refine Go.step (fun _ k => XS.i2l X2.here hx rfl (hb hby at_108) rfl k) ?_
  show Go _ _ _ _ (T2.setTop (mkF m 109 #[.val (.int x0), .val (.int x1), .val (.int x2), .val (.int x3), .val (.int x4), .val (.int x5), .val (.int (x0 >>> ((7 : Int32) &&& 31))), .val (.int (x1 >>> ((7 : Int32) &&& 31))), .val (.int (x2 >>> ((7 : Int32) &&& 31))), .val (.int (x3 >>> ((7 : Int32) &&& 31))), .val (.int (x4 >>> ((7 : Int32) &&& 31))), .val (.int (x5 >>> ((7 : Int32) &&& 31))), .val (.ref b1), .unset, .unset] [(.long ((x5 >>> ((7 : Int32) &&& 31)).toInt64)), (.long (68 : Int64)), (.long ((((((-45 : Int64) * ((x0 >>> ((7 : Int32) &&& 31)).toInt64)) + ((68 : Int64) * ((x1 >>> ((7 : Int32) &&& 31)).toInt64))) - ((64 : Int64) * ((x2 >>> ((7 : Int32) &&& 31)).toInt64))) - ((186 : Int64) * ((x3 >>> ((7 : Int32) &&& 31)).toInt64))) - ((158 : Int64) * ((x4 >>> ((7 : Int32) &&& 31)).toInt64))))]))
  refine Go.step (fun _ k => XS.lmul X2.here hx rfl (hb hby at_109) rfl k) ?_
  show Go _ _ _ _ (T2.setTop (mkF m 110 #[.val (.int x0), .val (.int x1), .val (.int x2), .val (.int x3), .val (.int x4), .val (.int x5), .val (.int (x0 >>> ((7 : Int32) &&& 31))), .val (.int (x1 >>> ((7 : Int32) &&& 31))), .val (.int (x2 >>> ((7 : Int32) &&& 31))), .val (.int (x3 >>> ((7 : Int32) &&& 31))), .val (.int (x4 >>> ((7 : Int32) &&& 31))), .val (.int (x5 >>> ((7 : Int32) &&& 31))), .val (.ref b1), .unset, .unset] [(.long ((68 : Int64) * ((x5 >>> ((7 : Int32) &&& 31)).toInt64))), (.long ((((((-45 : Int64) * ((x0 >>> ((7 : Int32) &&& 31)).toInt64)) + ((68 : Int64) * ((x1 >>> ((7 : Int32) &&& 31)).toInt64))) - ((64 : Int64) * ((x2 >>> ((7 : Int32) &&& 31)).toInt64))) - ((186 : Int64) * ((x3 >>> ((7 : Int32) &&& 31)).toInt64))) - ((158 : Int64) * ((x4 >>> ((7 : Int32) &&& 31)).toInt64))))]))
  refine Go.step (fun _ k => XS.lsub X2.here hx rfl (hb hby at_110) rfl k) ?_
  show Go _ _ _ _ (T2.setTop (mkF m 111 #[.val (.int x0), .val (.int x1), .val (.int x2), .val (.int x3), .val (.int x4), .val (.int x5), .val (.int (x0 >>> ((7 : Int32) &&& 31))), .val (.int (x1 >>> ((7 : Int32) &&& 31))), .val (.int (x2 >>> ((7 : Int32) &&& 31))), .val (.int (x3 >>> ((7 : Int32) &&& 31))), .val (.int (x4 >>> ((7 : Int32) &&& 31))), .val (.int (x5 >>> ((7 : Int32) &&& 31))), .val (.ref b1), .unset, .unset] [(.long (((((((-45 : Int64) * ((x0 >>> ((7 : Int32) &&& 31)).toInt64)) + ((68 : Int64) * ((x1 >>> ((7 : Int32) &&& 31)).toInt64))) - ((64 : Int64) * ((x2 >>> ((7 : Int32) &&& 31)).toInt64))) - ((186 : Int64) * ((x3 >>> ((7 : Int32) &&& 31)).toInt64))) - ((158 : Int64) * ((x4 >>> ((7 : Int32) &&& 31)).toInt64))) - ((68 : Int64) * ((x5 >>> ((7 : Int32) &&& 31)).toInt64))))]))
  refine Go.step (fun _ k => XS.lstore X2.here hx rfl (hb hby at_111) rfl (l' := #[.val (.int x0), .val (.int x1), .val (.int x2), .val (.int x3), .val (.int x4), .val (.int x5), .val (.int (x0 >>> ((7 : Int32) &&& 31))), .val (.int (x1 >>> ((7 : Int32) &&& 31))), .val (.int (x2 >>> ((7 : Int32) &&& 31))), .val (.int (x3 >>> ((7 : Int32) &&& 31))), .val (.int (x4 >>> ((7 : Int32) &&& 31))), .val (.int (x5 >>> ((7 : Int32) &&& 31))), .val (.ref b1), .val (.long (((((((-45 : Int64) * ((x0 >>> ((7 : Int32) &&& 31)).toInt64)) + ((68 : Int64) * ((x1 >>> ((7 : Int32) &&& 31)).toInt64))) - ((64 : Int64) * ((x2 >>> ((7 : Int32) &&& 31)).toInt64))) - ((186 : Int64) * ((x3 >>> ((7 : Int32) &&& 31)).toInt64))) - ((158 : Int64) * ((x4 >>> ((7 : Int32) &&& 31)).toInt64))) - ((68 : Int64) * ((x5 >>> ((7 : Int32) &&& 31)).toInt64)))), .second]) rfl k) ?_
  show Go _ _ _ _ (T2.setTop (mkF m 113 #[.val (.int x0), .val (.int x1), .val (.int x2), .val (.int x3), .val (.int x4), .val (.int x5), .val (.int (x0 >>> ((7 : Int32) &&& 31))), .val (.int (x1 >>> ((7 : Int32) &&& 31))), .val (.int (x2 >>> ((7 : Int32) &&& 31))), .val (.int (x3 >>> ((7 : Int32) &&& 31))), .val (.int (x4 >>> ((7 : Int32) &&& 31))), .val (.int (x5 >>> ((7 : Int32) &&& 31))), .val (.ref b1), .val (.long (((((((-45 : Int64) * ((x0 >>> ((7 : Int32) &&& 31)).toInt64)) + ((68 : Int64) * ((x1 >>> ((7 : Int32) &&& 31)).toInt64))) - ((64 : Int64) * ((x2 >>> ((7 : Int32) &&& 31)).toInt64))) - ((186 : Int64) * ((x3 >>> ((7 : Int32) &&& 31)).toInt64))) - ((158 : Int64) * ((x4 >>> ((7 : Int32) &&& 31)).toInt64))) - ((68 : Int64) * ((x5 >>> ((7 : Int32) &&& 31)).toInt64)))), .second] []))
  refine Go.step (fun _ k => XS.aload X2.here hx rfl (hb hby at_113) rfl rfl k) ?_
  show Go _ _ _ _ (T2.setTop (mkF m 115 #[.val (.int x0), .val (.int x1), .val (.int x2), .val (.int x3), .val (.int x4), .val (.int x5), .val (.int (x0 >>> ((7 : Int32) &&& 31))), .val (.int (x1 >>> ((7 : Int32) &&& 31))), .val (.int (x2 >>> ((7 : Int32) &&& 31))), .val (.int (x3 >>> ((7 : Int32) &&& 31))), .val (.int (x4 >>> ((7 : Int32) &&& 31))), .val (.int (x5 >>> ((7 : Int32) &&& 31))), .val (.ref b1), .val (.long (((((((-45 : Int64) * ((x0 >>> ((7 : Int32) &&& 31)).toInt64)) + ((68 : Int64) * ((x1 >>> ((7 : Int32) &&& 31)).toInt64))) - ((64 : Int64) * ((x2 >>> ((7 : Int32) &&& 31)).toInt64))) - ((186 : Int64) * ((x3 >>> ((7 : Int32) &&& 31)).toInt64))) - ((158 : Int64) * ((x4 >>> ((7 : Int32) &&& 31)).toInt64))) - ((68 : Int64) * ((x5 >>> ((7 : Int32) &&& 31)).toInt64)))), .second] [(.ref b1)]))
  refine goV X2 hx hZ hown (hw _ (List.mem_of_getElem? (i := 32) rfl)) (hw _ (List.mem_of_getElem? (i := 33) rfl)) (notFace_of_selects (args := #[]) (mvT hZ (hw _ (List.mem_of_getElem? (i := 35) rfl)))) (hw _ (List.mem_of_getElem? (i := 35) rfl)) (hw _ (List.mem_of_getElem? (i := 34) rfl)) (hw _ (List.mem_of_getElem? (i := 2) rfl)) (hw _ (List.mem_of_getElem? (i := 36) rfl)) (by decide) (rm4 l Z a0 hw [] b1 T2.heap (x0 >>> ((7 : Int32) &&& 31)) (x1 >>> ((7 : Int32) &&& 31)) (x2 >>> ((7 : Int32) &&& 31)) (x3 >>> ((7 : Int32) &&& 31)) (x4 >>> ((7 : Int32) &&& 31)) (x5 >>> ((7 : Int32) &&& 31)) (FP.ddiv (FP.i2d (x0 >>> ((7 : Int32) &&& 31))) (4611686018427387904 : UInt64)) (own_over (own_abs (own_small x0)) (Jvm.FP.Core.i2d_int (x0 >>> ((7 : Int32) &&& 31)))) (own_small x0) (own_small x1) (own_small x2) (own_small x3) (own_small x4) (own_small x5) FX_landingHeight FX_erodedCells FX_rowTransitions FX_columnTransitions FX_holes FX_wells) rfl EX2 (by rw [hml]; rfl) [] [] rfl pd4 rfl rfl 0 rfl (hb hby at_115) (by decide) (by decide) (by decide) (by decide) fun T3 L3 v3 q3 X3 => ?_
  obtain ⟨rfl, e3, rfl⟩ := q3
  rw [List.append_nil] at X3
  show Go _ _ _ _ (T3.setTop (mkF m 118 #[.val (.int x0), .val (.int x1), .val (.int x2), .val (.int x3), .val (.int x4), .val (.int x5), .val (.int (x0 >>> ((7 : Int32) &&& 31))), .val (.int (x1 >>> ((7 : Int32) &&& 31))), .val (.int (x2 >>> ((7 : Int32) &&& 31))), .val (.int (x3 >>> ((7 : Int32) &&& 31))), .val (.int (x4 >>> ((7 : Int32) &&& 31))), .val (.int (x5 >>> ((7 : Int32) &&& 31))), .val (.ref b1), .val (.long (((((((-45 : Int64) * ((x0 >>> ((7 : Int32) &&& 31)).toInt64)) + ((68 : Int64) * ((x1 >>> ((7 : Int32) &&& 31)).toInt64))) - ((64 : Int64) * ((x2 >>> ((7 : Int32) &&& 31)).toInt64))) - ((186 : Int64) * ((x3 >>> ((7 : Int32) &&& 31)).toInt64))) - ((158 : Int64) * ((x4 >>> ((7 : Int32) &&& 31)).toInt64))) - ((68 : Int64) * ((x5 >>> ((7 : Int32) &&& 31)).toInt64)))), .second] [(.double (v6 (FP.ddiv (FP.i2d (x0 >>> ((7 : Int32) &&& 31))) (4611686018427387904 : UInt64)) (x1 >>> ((7 : Int32) &&& 31)) (x2 >>> ((7 : Int32) &&& 31)) (x3 >>> ((7 : Int32) &&& 31)) (x4 >>> ((7 : Int32) &&& 31)) (x5 >>> ((7 : Int32) &&& 31))))]))
  refine Go.step (X3.ldc2DoubleC hx hown (mvT hZ (hw _ (List.mem_of_getElem? (i := 3) rfl))) (g := (mkF m 118 #[.val (.int x0), .val (.int x1), .val (.int x2), .val (.int x3), .val (.int x4), .val (.int x5), .val (.int (x0 >>> ((7 : Int32) &&& 31))), .val (.int (x1 >>> ((7 : Int32) &&& 31))), .val (.int (x2 >>> ((7 : Int32) &&& 31))), .val (.int (x3 >>> ((7 : Int32) &&& 31))), .val (.int (x4 >>> ((7 : Int32) &&& 31))), .val (.int (x5 >>> ((7 : Int32) &&& 31))), .val (.ref b1), .val (.long (((((((-45 : Int64) * ((x0 >>> ((7 : Int32) &&& 31)).toInt64)) + ((68 : Int64) * ((x1 >>> ((7 : Int32) &&& 31)).toInt64))) - ((64 : Int64) * ((x2 >>> ((7 : Int32) &&& 31)).toInt64))) - ((186 : Int64) * ((x3 >>> ((7 : Int32) &&& 31)).toInt64))) - ((158 : Int64) * ((x4 >>> ((7 : Int32) &&& 31)).toInt64))) - ((68 : Int64) * ((x5 >>> ((7 : Int32) &&& 31)).toInt64)))), .second] [(.double (v6 (FP.ddiv (FP.i2d (x0 >>> ((7 : Int32) &&& 31))) (4611686018427387904 : UInt64)) (x1 >>> ((7 : Int32) &&& 31)) (x2 >>> ((7 : Int32) &&& 31)) (x3 >>> ((7 : Int32) &&& 31)) (x4 >>> ((7 : Int32) &&& 31)) (x5 >>> ((7 : Int32) &&& 31))))])) rfl (hb hby at_118)) ?_
  show Go _ _ _ _ (T3.setTop (mkF m 121 #[.val (.int x0), .val (.int x1), .val (.int x2), .val (.int x3), .val (.int x4), .val (.int x5), .val (.int (x0 >>> ((7 : Int32) &&& 31))), .val (.int (x1 >>> ((7 : Int32) &&& 31))), .val (.int (x2 >>> ((7 : Int32) &&& 31))), .val (.int (x3 >>> ((7 : Int32) &&& 31))), .val (.int (x4 >>> ((7 : Int32) &&& 31))), .val (.int (x5 >>> ((7 : Int32) &&& 31))), .val (.ref b1), .val (.long (((((((-45 : Int64) * ((x0 >>> ((7 : Int32) &&& 31)).toInt64)) + ((68 : Int64) * ((x1 >>> ((7 : Int32) &&& 31)).toInt64))) - ((64 : Int64) * ((x2 >>> ((7 : Int32) &&& 31)).toInt64))) - ((186 : Int64) * ((x3 >>> ((7 : Int32) &&& 31)).toInt64))) - ((158 : Int64) * ((x4 >>> ((7 : Int32) &&& 31)).toInt64))) - ((68 : Int64) * ((x5 >>> ((7 : Int32) &&& 31)).toInt64)))), .second] [(.double (4611686018427387904 : UInt64)), (.double (v6 (FP.ddiv (FP.i2d (x0 >>> ((7 : Int32) &&& 31))) (4611686018427387904 : UInt64)) (x1 >>> ((7 : Int32) &&& 31)) (x2 >>> ((7 : Int32) &&& 31)) (x3 >>> ((7 : Int32) &&& 31)) (x4 >>> ((7 : Int32) &&& 31)) (x5 >>> ((7 : Int32) &&& 31))))]))
  refine Go.step (fun _ k => XS.dmulS X3.here hx rfl (hb hby at_121) rfl (own_end (x0 >>> ((7 : Int32) &&& 31)) (x1 >>> ((7 : Int32) &&& 31)) (x2 >>> ((7 : Int32) &&& 31)) (x3 >>> ((7 : Int32) &&& 31)) (x4 >>> ((7 : Int32) &&& 31)) (x5 >>> ((7 : Int32) &&& 31)) (FP.ddiv (FP.i2d (x0 >>> ((7 : Int32) &&& 31))) (4611686018427387904 : UInt64)) (own_over (own_abs (own_small x0)) (Jvm.FP.Core.i2d_int (x0 >>> ((7 : Int32) &&& 31)))) (own_small x0) (own_small x1) (own_small x2) (own_small x3) (own_small x4) (own_small x5)).1 (v := (FP.dmul (v6 (FP.ddiv (FP.i2d (x0 >>> ((7 : Int32) &&& 31))) (4611686018427387904 : UInt64)) (x1 >>> ((7 : Int32) &&& 31)) (x2 >>> ((7 : Int32) &&& 31)) (x3 >>> ((7 : Int32) &&& 31)) (x4 >>> ((7 : Int32) &&& 31)) (x5 >>> ((7 : Int32) &&& 31))) (4611686018427387904 : UInt64))) rfl k) ?_
  show Go _ _ _ _ (T3.setTop (mkF m 122 #[.val (.int x0), .val (.int x1), .val (.int x2), .val (.int x3), .val (.int x4), .val (.int x5), .val (.int (x0 >>> ((7 : Int32) &&& 31))), .val (.int (x1 >>> ((7 : Int32) &&& 31))), .val (.int (x2 >>> ((7 : Int32) &&& 31))), .val (.int (x3 >>> ((7 : Int32) &&& 31))), .val (.int (x4 >>> ((7 : Int32) &&& 31))), .val (.int (x5 >>> ((7 : Int32) &&& 31))), .val (.ref b1), .val (.long (((((((-45 : Int64) * ((x0 >>> ((7 : Int32) &&& 31)).toInt64)) + ((68 : Int64) * ((x1 >>> ((7 : Int32) &&& 31)).toInt64))) - ((64 : Int64) * ((x2 >>> ((7 : Int32) &&& 31)).toInt64))) - ((186 : Int64) * ((x3 >>> ((7 : Int32) &&& 31)).toInt64))) - ((158 : Int64) * ((x4 >>> ((7 : Int32) &&& 31)).toInt64))) - ((68 : Int64) * ((x5 >>> ((7 : Int32) &&& 31)).toInt64)))), .second] [(.double (FP.dmul (v6 (FP.ddiv (FP.i2d (x0 >>> ((7 : Int32) &&& 31))) (4611686018427387904 : UInt64)) (x1 >>> ((7 : Int32) &&& 31)) (x2 >>> ((7 : Int32) &&& 31)) (x3 >>> ((7 : Int32) &&& 31)) (x4 >>> ((7 : Int32) &&& 31)) (x5 >>> ((7 : Int32) &&& 31))) (4611686018427387904 : UInt64)))]))
  refine Go.step (fun _ k => XS.lload X3.here hx rfl (hb hby at_122) rfl k) ?_
  show Go _ _ _ _ (T3.setTop (mkF m 124 #[.val (.int x0), .val (.int x1), .val (.int x2), .val (.int x3), .val (.int x4), .val (.int x5), .val (.int (x0 >>> ((7 : Int32) &&& 31))), .val (.int (x1 >>> ((7 : Int32) &&& 31))), .val (.int (x2 >>> ((7 : Int32) &&& 31))), .val (.int (x3 >>> ((7 : Int32) &&& 31))), .val (.int (x4 >>> ((7 : Int32) &&& 31))), .val (.int (x5 >>> ((7 : Int32) &&& 31))), .val (.ref b1), .val (.long (((((((-45 : Int64) * ((x0 >>> ((7 : Int32) &&& 31)).toInt64)) + ((68 : Int64) * ((x1 >>> ((7 : Int32) &&& 31)).toInt64))) - ((64 : Int64) * ((x2 >>> ((7 : Int32) &&& 31)).toInt64))) - ((186 : Int64) * ((x3 >>> ((7 : Int32) &&& 31)).toInt64))) - ((158 : Int64) * ((x4 >>> ((7 : Int32) &&& 31)).toInt64))) - ((68 : Int64) * ((x5 >>> ((7 : Int32) &&& 31)).toInt64)))), .second] [(.long (((((((-45 : Int64) * ((x0 >>> ((7 : Int32) &&& 31)).toInt64)) + ((68 : Int64) * ((x1 >>> ((7 : Int32) &&& 31)).toInt64))) - ((64 : Int64) * ((x2 >>> ((7 : Int32) &&& 31)).toInt64))) - ((186 : Int64) * ((x3 >>> ((7 : Int32) &&& 31)).toInt64))) - ((158 : Int64) * ((x4 >>> ((7 : Int32) &&& 31)).toInt64))) - ((68 : Int64) * ((x5 >>> ((7 : Int32) &&& 31)).toInt64)))), (.double (FP.dmul (v6 (FP.ddiv (FP.i2d (x0 >>> ((7 : Int32) &&& 31))) (4611686018427387904 : UInt64)) (x1 >>> ((7 : Int32) &&& 31)) (x2 >>> ((7 : Int32) &&& 31)) (x3 >>> ((7 : Int32) &&& 31)) (x4 >>> ((7 : Int32) &&& 31)) (x5 >>> ((7 : Int32) &&& 31))) (4611686018427387904 : UInt64)))]))
  refine Go.step (fun _ k => XS.l2dS X3.here hx rfl (hb hby at_124) rfl rfl k) ?_
  show Go _ _ _ _ (T3.setTop (mkF m 125 #[.val (.int x0), .val (.int x1), .val (.int x2), .val (.int x3), .val (.int x4), .val (.int x5), .val (.int (x0 >>> ((7 : Int32) &&& 31))), .val (.int (x1 >>> ((7 : Int32) &&& 31))), .val (.int (x2 >>> ((7 : Int32) &&& 31))), .val (.int (x3 >>> ((7 : Int32) &&& 31))), .val (.int (x4 >>> ((7 : Int32) &&& 31))), .val (.int (x5 >>> ((7 : Int32) &&& 31))), .val (.ref b1), .val (.long (((((((-45 : Int64) * ((x0 >>> ((7 : Int32) &&& 31)).toInt64)) + ((68 : Int64) * ((x1 >>> ((7 : Int32) &&& 31)).toInt64))) - ((64 : Int64) * ((x2 >>> ((7 : Int32) &&& 31)).toInt64))) - ((186 : Int64) * ((x3 >>> ((7 : Int32) &&& 31)).toInt64))) - ((158 : Int64) * ((x4 >>> ((7 : Int32) &&& 31)).toInt64))) - ((68 : Int64) * ((x5 >>> ((7 : Int32) &&& 31)).toInt64)))), .second] [(.double (FP.l2d (((((((-45 : Int64) * ((x0 >>> ((7 : Int32) &&& 31)).toInt64)) + ((68 : Int64) * ((x1 >>> ((7 : Int32) &&& 31)).toInt64))) - ((64 : Int64) * ((x2 >>> ((7 : Int32) &&& 31)).toInt64))) - ((186 : Int64) * ((x3 >>> ((7 : Int32) &&& 31)).toInt64))) - ((158 : Int64) * ((x4 >>> ((7 : Int32) &&& 31)).toInt64))) - ((68 : Int64) * ((x5 >>> ((7 : Int32) &&& 31)).toInt64))))), (.double (FP.dmul (v6 (FP.ddiv (FP.i2d (x0 >>> ((7 : Int32) &&& 31))) (4611686018427387904 : UInt64)) (x1 >>> ((7 : Int32) &&& 31)) (x2 >>> ((7 : Int32) &&& 31)) (x3 >>> ((7 : Int32) &&& 31)) (x4 >>> ((7 : Int32) &&& 31)) (x5 >>> ((7 : Int32) &&& 31))) (4611686018427387904 : UInt64)))]))
  refine Go.step (fun _ k => XS.dcmpS X3.here hx rfl (hb hby at_125) rfl (v := 0) (own_end (x0 >>> ((7 : Int32) &&& 31)) (x1 >>> ((7 : Int32) &&& 31)) (x2 >>> ((7 : Int32) &&& 31)) (x3 >>> ((7 : Int32) &&& 31)) (x4 >>> ((7 : Int32) &&& 31)) (x5 >>> ((7 : Int32) &&& 31)) (FP.ddiv (FP.i2d (x0 >>> ((7 : Int32) &&& 31))) (4611686018427387904 : UInt64)) (own_over (own_abs (own_small x0)) (Jvm.FP.Core.i2d_int (x0 >>> ((7 : Int32) &&& 31)))) (own_small x0) (own_small x1) (own_small x2) (own_small x3) (own_small x4) (own_small x5)).2 k) ?_
  show Go _ _ _ _ (T3.setTop (mkF m 126 #[.val (.int x0), .val (.int x1), .val (.int x2), .val (.int x3), .val (.int x4), .val (.int x5), .val (.int (x0 >>> ((7 : Int32) &&& 31))), .val (.int (x1 >>> ((7 : Int32) &&& 31))), .val (.int (x2 >>> ((7 : Int32) &&& 31))), .val (.int (x3 >>> ((7 : Int32) &&& 31))), .val (.int (x4 >>> ((7 : Int32) &&& 31))), .val (.int (x5 >>> ((7 : Int32) &&& 31))), .val (.ref b1), .val (.long (((((((-45 : Int64) * ((x0 >>> ((7 : Int32) &&& 31)).toInt64)) + ((68 : Int64) * ((x1 >>> ((7 : Int32) &&& 31)).toInt64))) - ((64 : Int64) * ((x2 >>> ((7 : Int32) &&& 31)).toInt64))) - ((186 : Int64) * ((x3 >>> ((7 : Int32) &&& 31)).toInt64))) - ((158 : Int64) * ((x4 >>> ((7 : Int32) &&& 31)).toInt64))) - ((68 : Int64) * ((x5 >>> ((7 : Int32) &&& 31)).toInt64)))), .second] [(.int (0 : Int32))]))
  refine Go.step (fun _ k => XS.ifNo X3.here hx rfl (hb hby at_126) rfl ((if0 _ _).trans (teq (by decide : ((0 : Int32) = (0 : Int32)))).2) k) ?_
  show Go _ _ _ _ (T3.setTop (mkF m 129 #[.val (.int x0), .val (.int x1), .val (.int x2), .val (.int x3), .val (.int x4), .val (.int x5), .val (.int (x0 >>> ((7 : Int32) &&& 31))), .val (.int (x1 >>> ((7 : Int32) &&& 31))), .val (.int (x2 >>> ((7 : Int32) &&& 31))), .val (.int (x3 >>> ((7 : Int32) &&& 31))), .val (.int (x4 >>> ((7 : Int32) &&& 31))), .val (.int (x5 >>> ((7 : Int32) &&& 31))), .val (.ref b1), .val (.long (((((((-45 : Int64) * ((x0 >>> ((7 : Int32) &&& 31)).toInt64)) + ((68 : Int64) * ((x1 >>> ((7 : Int32) &&& 31)).toInt64))) - ((64 : Int64) * ((x2 >>> ((7 : Int32) &&& 31)).toInt64))) - ((186 : Int64) * ((x3 >>> ((7 : Int32) &&& 31)).toInt64))) - ((158 : Int64) * ((x4 >>> ((7 : Int32) &&& 31)).toInt64))) - ((68 : Int64) * ((x5 >>> ((7 : Int32) &&& 31)).toInt64)))), .second] []))
  refine Go.step (fun _ k => XS.iconst X3.here hx rfl (hb hby at_129) k) ?_
  show Go _ _ _ _ (T3.setTop (mkF m 130 #[.val (.int x0), .val (.int x1), .val (.int x2), .val (.int x3), .val (.int x4), .val (.int x5), .val (.int (x0 >>> ((7 : Int32) &&& 31))), .val (.int (x1 >>> ((7 : Int32) &&& 31))), .val (.int (x2 >>> ((7 : Int32) &&& 31))), .val (.int (x3 >>> ((7 : Int32) &&& 31))), .val (.int (x4 >>> ((7 : Int32) &&& 31))), .val (.int (x5 >>> ((7 : Int32) &&& 31))), .val (.ref b1), .val (.long (((((((-45 : Int64) * ((x0 >>> ((7 : Int32) &&& 31)).toInt64)) + ((68 : Int64) * ((x1 >>> ((7 : Int32) &&& 31)).toInt64))) - ((64 : Int64) * ((x2 >>> ((7 : Int32) &&& 31)).toInt64))) - ((186 : Int64) * ((x3 >>> ((7 : Int32) &&& 31)).toInt64))) - ((158 : Int64) * ((x4 >>> ((7 : Int32) &&& 31)).toInt64))) - ((68 : Int64) * ((x5 >>> ((7 : Int32) &&& 31)).toInt64)))), .second] [(.int (1 : Int32))]))
  refine Go.step (fun _ k => XS.goto X3.here hx rfl (pc0 := 130) (pc' := 134) rfl (hb hby at_130) (by decide) (by decide) k) ?_
  show Go _ _ _ _ (T3.setTop (mkF m 134 #[.val (.int x0), .val (.int x1), .val (.int x2), .val (.int x3), .val (.int x4), .val (.int x5), .val (.int (x0 >>> ((7 : Int32) &&& 31))), .val (.int (x1 >>> ((7 : Int32) &&& 31))), .val (.int (x2 >>> ((7 : Int32) &&& 31))), .val (.int (x3 >>> ((7 : Int32) &&& 31))), .val (.int (x4 >>> ((7 : Int32) &&& 31))), .val (.int (x5 >>> ((7 : Int32) &&& 31))), .val (.ref b1), .val (.long (((((((-45 : Int64) * ((x0 >>> ((7 : Int32) &&& 31)).toInt64)) + ((68 : Int64) * ((x1 >>> ((7 : Int32) &&& 31)).toInt64))) - ((64 : Int64) * ((x2 >>> ((7 : Int32) &&& 31)).toInt64))) - ((186 : Int64) * ((x3 >>> ((7 : Int32) &&& 31)).toInt64))) - ((158 : Int64) * ((x4 >>> ((7 : Int32) &&& 31)).toInt64))) - ((68 : Int64) * ((x5 >>> ((7 : Int32) &&& 31)).toInt64)))), .second] [(.int (1 : Int32))]))
  exact leafN X3 hx (t := .boolean) hret (by simp) hlk (w := (1 : Int32)) rfl (hb hby at_134) ⟨rfl, (Fr.app (Fr.nil _) N2)⟩ (by decide) (by decide)
set_option maxRecDepth 65536 in
set_option maxHeartbeats 40000000 in
theorem comes_1 {Post : Tables → Env → Array Value → State → Outcome → State → Prop} (hpost : ∀ tb e args s v u, (limb_1_1.after args s (.returned v) u = true ∧ limb_1_2.after args s (.returned v) u = true ∧ True) → FrameEnd s (.returned v) u (Jvm.fieldLocs frame_1_writes args s ++ Jvm.arrayLocs frame_1_arrays args s ++ Jvm.staticLocs frame_1_statics s) 16 128 → Post tb e args s (.returned v) u) :
    ArmFor flags0 classFile x code maxLocals ret World_1 tables_1 room_1 Calls_1 rest_1 Pre_1 Post := by
  intro l hfl _ _ p e ha hc hk s m args below hf hA hF happ hP
  obtain ⟨hcalls, hrest, hpre⟩ := hP
  obtain ⟨-, -, -, hnamed, -, -, -, hat⟩ := (Spec.applies_iff hf).mp happ
  obtain ⟨hg, hn⟩ := and_e (Cond.before_iff.mp (show (Jvm.Cond.and given_1 narrow_1).before args s = true from hpre))
  obtain ⟨hcount, hg0⟩ := and_e hg
  obtain ⟨ha0, hg1⟩ := and_e hg0
  obtain ⟨ha1, hg2⟩ := and_e hg1
  obtain ⟨ha2, hg3⟩ := and_e hg2
  obtain ⟨ha3, hg4⟩ := and_e hg3
  obtain ⟨ha4, hg5⟩ := and_e hg4
  have ha5 := hg5
  obtain ⟨w0, w1, w2, w3, w4, w5, rfl⟩ : ∃ w0 w1 w2 w3 w4 w5 : Value, args = #[w0, w1, w2, w3, w4, w5] := by
    have hs : args.size = 6 := by simpa [Cond.value, given_1] using hcount
    obtain ⟨L⟩ := args
    match L, hs with
    | [w0, w1, w2, w3, w4, w5], _ => exact ⟨w0, w1, w2, w3, w4, w5, rfl⟩
  have hw := fun d (hd : d ∈ tables_1) => atoms_spec (ws := Jvm.Cond.code x code maxLocals ret :: tables_1) hat d (List.mem_cons_of_mem _ hd)
  obtain ⟨i0, ei0⟩ := is_v ha0
  obtain rfl : w0 = (.int i0) := Option.some.inj ei0
  obtain ⟨i1, ei1⟩ := is_v ha1
  obtain rfl : w1 = (.int i1) := Option.some.inj ei1
  obtain ⟨i2, ei2⟩ := is_v ha2
  obtain rfl : w2 = (.int i2) := Option.some.inj ei2
  obtain ⟨i3, ei3⟩ := is_v ha3
  obtain rfl : w3 = (.int i3) := Option.some.inj ei3
  obtain ⟨i4, ei4⟩ := is_v ha4
  obtain rfl : w4 = (.int i4) := Option.some.inj ei4
  obtain ⟨i5, ei5⟩ := is_v ha5
  obtain rfl : w5 = (.int i5) := Option.some.inj ei5
  obtain ⟨n, o, h1, h2, h3, _, L, rfl, ⟨rfl, N⟩, hq⟩ := rm0 l s _ hw tables_1 i0 i1 i2 i3 i4 i5 s.heap p e ha hc hk s m _ below hf ((Spec.applies_iff_loose hf).mp happ).1 ⟨rfl, State.Warmed39.refl s, rfl⟩ trivial
  refine ⟨n, _, h1, h2, h3, hpost _ _ _ _ _ _ ⟨Cond.after_iff.mpr rfl, Cond.after_iff.mpr (eq_i res_at (Term.int_eval (1)) rfl), trivial⟩ ⟨hq.1, hq.2.1, (hq.2.2.sift fun y hy => Or.inr (N y hy)).mono (by decide) (by decide)⟩⟩
theorem main_1_1 : Claimed_1_1 := comes_1 fun _ _ _ _ _ _ h hF => ⟨h.1, hF⟩
theorem main_1_2 : Claimed_1_2 := comes_1 fun _ _ _ _ _ _ h hF => ⟨h.2.1, hF⟩
end Jvm.Pilot.@@N@@
namespace Jvm.Pilot.@@N@@
open Jvm Jvm.ClassFile Sem Op Lib Jvm.Free Jvm.Stand Jvm.Pilot.@@N@@.Jvm.D
/-! MADE BY PROGRAM (witnessworld.py) out of the Statement's table words and the real class files: 10 classes; the members and pool entries that the words name. The judged class is class 1, her method 1. -/
namespace start1
open Jvm.ClassFile
def u (s : String) : CpInfo := .utf8 (stringToUtf16 s)
/-- a pool by its gaps: so many unusable entries, then the entry; so many at the end -/
def gap : Nat → List CpInfo → List CpInfo
  | 0, r => r
  | n + 1, r => .unusable :: gap n r
def poolList (es : List (Nat × CpInfo)) (last : Nat) : List CpInfo := es.foldr (fun e r => gap e.1 (e.2 :: r)) (gap last [])
def pool (es : List (Nat × CpInfo)) (last : Nat) : Array CpInfo := ⟨poolList es last⟩
def fileOf (pool : Array CpInfo) (this : Nat) (attrs : Array Attribute := #[]) (ms : Array MethodInfo := #[]) (fl : Nat := 33) (sup : Nat := 0) (ifs : Array Nat := #[]) (fds : Array FieldInfo := #[]) : ClassFile where
  minorVersion := 0
  majorVersion := 65
  constantPool := pool
  accessFlags := fl
  thisClass := this
  superClass := sup
  interfaces := ifs
  fields := fds
  methods := ms
  attributes := attrs
def plain (name : String) (sup : Option ClassId) : Class where
  name := name
  kind := .ordinary
  loader := none
  accessFlags := 33
  super := sup
  interfaces := #[]
  cf := none
  fields := #[]
  methods := #[]
  instanceTypes := #[]
  staticTypes := #[]
  resolved := #[]
  callSites := []
  init := .initialized
  statics := none
  mirror := none

def pool0 : Array CpInfo := pool [(5, u "<init>"), (0, u "()V"), (1, .class_ 10), (1, u "java/lang/Object")] 113

def k0c0 : Code := { maxStack := 0, maxLocals := 1, code := object_method_1_code, exceptionTable := #[], attributes := #[] }
def k0m0 : Method := { name := "<init>", desc := "()V", sig := { parameters := [], returnType := none }, accessFlags := 1, code := some k0c0 }
/-- java/lang/Object -/
def k0 : Class := { plain "java/lang/Object" none with
  accessFlags := 33
  interfaces := #[]
  cf := some (fileOf pool0 8 #[] #[{ accessFlags := 1, nameIndex := 5, descriptorIndex := 6, attributes := #[] }] 33 0 #[] #[])
  fields := #[]
  methods := #[k0m0]
  instanceTypes := #[]
  staticTypes := #[]
  resolved := Array.replicate 124 none
  statics := none }

def pool1 : Array CpInfo := pool [(2, .class_ 4), (1, u "java/lang/Object"), (0, u "<init>"), (0, u "()V"), (0, .class_ 8), (0, u "tesserae/tetris/Features"), (0, .double 4611686018427387904), (1, .methodref 7 12), (0, .nameAndType 5 13), (0, u "(DIIIII)V"), (0, .long 18446744073709551571), (1, .long 68), (1, .long 64), (1, .long 186), (1, .long 158), (1, .methodref 7 25), (0, .nameAndType 26 27), (0, u "value"), (0, u "()D"), (0, .class_ 29), (0, u "tesserae/tetris/FeaturesValuePinLaw"), (2, u "law"), (0, u "(IIIIII)Z")] 3

def k1m0 : Method := { name := "<init>", desc := "()V", sig := { parameters := [], returnType := none }, accessFlags := 1, code := none }
def k1c1 : Code := { maxStack := 9, maxLocals := 15, code := code, exceptionTable := #[], attributes := #[] }
def k1m1 : Method := { name := "law", desc := "(IIIIII)Z", sig := { parameters := [.int, .int, .int, .int, .int, .int], returnType := some .boolean }, accessFlags := 9, code := some k1c1 }
/-- tesserae/tetris/FeaturesValuePinLaw -/
def k1 : Class := { plain "tesserae/tetris/FeaturesValuePinLaw" (some 0) with
  accessFlags := 49
  interfaces := #[]
  cf := some (fileOf pool1 28 #[] #[{ accessFlags := 1, nameIndex := 5, descriptorIndex := 6, attributes := #[] }, { accessFlags := 9, nameIndex := 32, descriptorIndex := 33, attributes := #[] }] 49 2 #[] #[])
  fields := #[]
  methods := #[k1m0, k1m1]
  instanceTypes := #[]
  staticTypes := #[]
  resolved := Array.replicate 37 none
  statics := none }

def pool2 : Array CpInfo := pool [(1, .methodref 2 3), (0, .class_ 4), (0, .nameAndType 5 6), (0, u "java/lang/Object"), (0, u "<init>"), (0, u "()V"), (0, .class_ 8), (0, u "java/lang/Record")] 13

def k2c0 : Code := { maxStack := 1, maxLocals := 1, code := jdk_30_method_1_code, exceptionTable := #[], attributes := #[] }
def k2m0 : Method := { name := "<init>", desc := "()V", sig := { parameters := [], returnType := none }, accessFlags := 4, code := some k2c0 }
/-- java/lang/Record -/
def k2 : Class := { plain "java/lang/Record" (some 0) with
  accessFlags := 1057
  interfaces := #[]
  cf := some (fileOf pool2 7 #[] #[{ accessFlags := 4, nameIndex := 5, descriptorIndex := 6, attributes := #[] }] 1057 2 #[] #[])
  fields := #[]
  methods := #[k2m0]
  instanceTypes := #[]
  staticTypes := #[]
  resolved := Array.replicate 22 none
  statics := none }

def pool3 : Array CpInfo := pool [(1, .methodref 2 3), (0, .class_ 4), (0, .nameAndType 5 6), (0, u "java/lang/Record"), (0, u "<init>"), (0, u "()V"), (0, .fieldref 8 9), (0, .class_ 10), (0, .nameAndType 11 12), (0, u "tesserae/tetris/Features"), (0, u "landingHeight"), (0, u "D"), (0, .fieldref 8 14), (0, .nameAndType 15 16), (0, u "erodedCells"), (0, u "I"), (0, .fieldref 8 18), (0, .nameAndType 19 16), (0, u "rowTransitions"), (0, .fieldref 8 21), (0, .nameAndType 22 16), (0, u "columnTransitions"), (0, .fieldref 8 24), (0, .nameAndType 25 16), (0, u "holes"), (0, .fieldref 8 27), (0, .nameAndType 28 16), (0, u "wells"), (53, u "(DIIIII)V"), (0, .double 13854902041140264960), (19, u "value"), (0, u "()D")] 28

def k3c0 : Code := { maxStack := 3, maxLocals := 8, code := prog_33_method_1_code, exceptionTable := #[], attributes := #[] }
def k3m0 : Method := { name := "<init>", desc := "(DIIIII)V", sig := { parameters := [.double, .int, .int, .int, .int, .int], returnType := none }, accessFlags := 1, code := some k3c0 }
def k3c1 : Code := { maxStack := 4, maxLocals := 1, code := prog_33_method_3_code, exceptionTable := #[], attributes := #[] }
def k3m1 : Method := { name := "value", desc := "()D", sig := { parameters := [], returnType := some .double }, accessFlags := 1, code := some k3c1 }
/-- tesserae/tetris/Features -/
def k3 : Class := { plain "tesserae/tetris/Features" (some 2) with
  accessFlags := 49
  interfaces := #[]
  cf := some (fileOf pool3 8 #[] #[{ accessFlags := 1, nameIndex := 5, descriptorIndex := 82, attributes := #[] }, { accessFlags := 1, nameIndex := 103, descriptorIndex := 104, attributes := #[] }] 49 2 #[] #[{ accessFlags := 18, nameIndex := 11, descriptorIndex := 12, attributes := #[] }, { accessFlags := 18, nameIndex := 15, descriptorIndex := 16, attributes := #[] }, { accessFlags := 18, nameIndex := 19, descriptorIndex := 16, attributes := #[] }, { accessFlags := 18, nameIndex := 22, descriptorIndex := 16, attributes := #[] }, { accessFlags := 18, nameIndex := 25, descriptorIndex := 16, attributes := #[] }, { accessFlags := 18, nameIndex := 28, descriptorIndex := 16, attributes := #[] }])
  fields := #[{ name := "landingHeight", type := .double, accessFlags := 18, slot := 0, constantValue := 0 }, { name := "erodedCells", type := .int, accessFlags := 18, slot := 1, constantValue := 0 }, { name := "rowTransitions", type := .int, accessFlags := 18, slot := 2, constantValue := 0 }, { name := "columnTransitions", type := .int, accessFlags := 18, slot := 3, constantValue := 0 }, { name := "holes", type := .int, accessFlags := 18, slot := 4, constantValue := 0 }, { name := "wells", type := .int, accessFlags := 18, slot := 5, constantValue := 0 }]
  methods := #[k3m0, k3m1]
  instanceTypes := #[.double, .int, .int, .int, .int, .int]
  staticTypes := #[]
  resolved := Array.replicate 133 none
  statics := none }

def pool4 : Array CpInfo := pool [(1, u "java/lang/Cloneable"), (0, .class_ 1), (0, u "java/lang/Object"), (0, .class_ 3)] 3

/-- java/lang/Cloneable -/
def k4 : Class := { plain "java/lang/Cloneable" (some 0) with
  accessFlags := 1537
  interfaces := #[]
  cf := some (fileOf pool4 2 #[] #[] 1537 4 #[] #[])
  fields := #[]
  methods := #[]
  instanceTypes := #[]
  staticTypes := #[]
  resolved := Array.replicate 8 none
  statics := none }

def pool5 : Array CpInfo := pool [(1, u "java/io/Serializable"), (0, .class_ 1), (0, u "java/lang/Object"), (0, .class_ 3)] 3

/-- java/io/Serializable -/
def k5 : Class := { plain "java/io/Serializable" (some 0) with
  accessFlags := 1537
  interfaces := #[]
  cf := some (fileOf pool5 2 #[] #[] 1537 4 #[] #[])
  fields := #[]
  methods := #[]
  instanceTypes := #[]
  staticTypes := #[]
  resolved := Array.replicate 8 none
  statics := none }

/-- the primitive byte -/
def k6 : Class := { plain "byte" none with kind := .primitive 'B', accessFlags := 0x411 }
/-- [B -/
def k7 : Class := { plain "[B" (some 0) with kind := .array 6 .byte, interfaces := #[4, 5], accessFlags := 1041 }

/-- the primitive int -/
def k8 : Class := { plain "int" none with kind := .primitive 'I', accessFlags := 0x411 }
/-- [I -/
def k9 : Class := { plain "[I" (some 0) with kind := .array 8 .int, interfaces := #[4, 5], accessFlags := 1041 }

def heap : Heap := #[]
def classes : Array Class := #[k0, k1, k2, k3, k4, k5, k6, k7, k8, k9]
def interned : List (Array UInt16 × Addr) := []
def slotsUsed : Nat := 0
def theMethod : MethodId := ⟨1, 1⟩
def args0 : Array Value := #[.int 1000, .int 2000, .int 3000, .int 400, .int 5000, .int 77]
def aboutOver (below : List Frame) : State where
  vm := { classes := classes, interned := interned.toArray }
  heap := heap
  slotsUsed := slotsUsed
  threads := #[{ frames := .invoking theMethod args0 :: below }]
def below0 : List Frame := [.native { method := ⟨0, 0⟩, args := #[] }]
def about1 : State := aboutOver below0
def p0 : Program := .bare "" "" ""
def e0 : Env := launch0.env 0 0 0
theorem w_frames : about1.frames = Frame.invoking theMethod args0 :: below0 := rfl
set_option maxRecDepth 65536 in
theorem w_args : argsFit about1.vm theMethod args0 = true := by decide +kernel
set_option maxRecDepth 65536 in
theorem w_heap : heapFits about1 = true := by decide +kernel
set_option maxRecDepth 65536 in
theorem w_runnable : about1.curStatus? = some .runnable := by decide +kernel
set_option maxRecDepth 65536 in
theorem w_alone : about1.alone = true := by decide +kernel
set_option maxRecDepth 65536 in
theorem w_named : about1.methodNamed? x = some theMethod := by decide +kernel
set_option maxRecDepth 65536 in
theorem w_hears : about1.hears theMethod below0 = true := by decide +kernel
set_option maxRecDepth 65536 in
theorem w_ripe : about1.ripe theMethod args0 below0 = true := by decide +kernel
theorem w_running : about1.status = .running := rfl
set_option maxRecDepth 65536 in
theorem w_room : about1.hasRoom e0.platform room_1 = true :=
  launch0.hasRoom_least _ room_1 (by decide +kernel) (by decide +kernel) (by decide +kernel) (by decide +kernel) (by decide +kernel) (by decide +kernel)
theorem allAtoms_all (ts : List Jvm.Cond) (a : Array Jvm.Value) (st : Jvm.State) : (allAtoms ts).before a st = ts.all (fun c => c.before a st) := by
  induction ts with
  | nil => rfl
  | cons c t ih =>
    show (Jvm.Cond.and c (allAtoms t)).before a st = _
    rw [Jvm.Cond.before_and, ih, List.all_cons]
def words1 : List Jvm.Cond := Jvm.Cond.code x code maxLocals ret :: tables_1
/-- a 'code' word, met by the world's own term for the bytes: nothing is compared byte by byte -/
theorem code_word {y : MethodName} {bytes : ByteArray} {mx : Nat} {rt : Option FieldType} {a : Array Value} {s : State} {m : MethodId} {meth : Method} {c : Code} (h1 : s.methodNamed? y = some m) (h2 : s.vm.method? m = some meth) (h3 : meth.code = some c) (h4 : c.code = bytes)
    (h5 : (c.maxLocals == mx && c.exceptionTable.isEmpty && decide (c.maxStack ≤ mostOperands) && decide (meth.sig.returnType = rt) && !meth.locks && decide (parseMethodDescriptor y.desc = some meth.sig)) = true) : (Jvm.Cond.code y bytes mx rt).before a s = true := by
  simp only [Bool.and_eq_true, beq_iff_eq, Bool.not_eq_true', decide_eq_true_eq] at h5
  obtain ⟨⟨⟨⟨⟨g1, g2⟩, g3⟩, g4⟩, g5⟩, g6⟩ := h5
  simp [Cond.before, Cond.holds, Cond.value, h1, h2, h3, h4, g1, g2, g3, g4, g5, g6]
def isCode : Jvm.Cond → Bool
  | .code _ _ _ _ => true
  | _ => false
theorem all_split {L : List Jvm.Cond} {P : Jvm.Cond → Bool} (h1 : L.all (fun c => isCode c || P c) = true) (h2 : ∀ c ∈ L.filter isCode, P c = true) : L.all P = true := by
  refine List.all_eq_true.mpr fun c hc => ?_
  have h := List.all_eq_true.mp h1 c hc
  rcases Bool.eq_false_or_eq_true (isCode c) with hi | hi
  · exact h2 c (List.mem_filter.mpr ⟨hc, hi⟩)
  · simpa [hi] using h
set_option maxRecDepth 65536 in
theorem w_c0 : (Jvm.Cond.code x code maxLocals ret).before args0 about1 = true := code_word (m := ⟨1, 1⟩) (meth := k1m1) (c := k1c1) (by decide +kernel) rfl rfl rfl (by decide +kernel)
set_option maxRecDepth 65536 in
theorem w_c1 : (Jvm.Cond.code ({ cls := "tesserae/tetris/Features", name := "<init>", desc := "(DIIIII)V" } : Jvm.MethodName) prog_33_method_1_code (8 : Nat) (Option.none : Option Jvm.ClassFile.FieldType)).before args0 about1 = true := code_word (m := ⟨3, 0⟩) (meth := k3m0) (c := k3c0) (by decide +kernel) rfl rfl rfl (by decide +kernel)
set_option maxRecDepth 65536 in
theorem w_c2 : (Jvm.Cond.code ({ cls := "java/lang/Record", name := "<init>", desc := "()V" } : Jvm.MethodName) jdk_30_method_1_code (1 : Nat) (Option.none : Option Jvm.ClassFile.FieldType)).before args0 about1 = true := code_word (m := ⟨2, 0⟩) (meth := k2m0) (c := k2c0) (by decide +kernel) rfl rfl rfl (by decide +kernel)
set_option maxRecDepth 65536 in
theorem w_c3 : (Jvm.Cond.code ({ cls := "java/lang/Object", name := "<init>", desc := "()V" } : Jvm.MethodName) object_method_1_code (1 : Nat) (Option.none : Option Jvm.ClassFile.FieldType)).before args0 about1 = true := code_word (m := ⟨0, 0⟩) (meth := k0m0) (c := k0c0) (by decide +kernel) rfl rfl rfl (by decide +kernel)
set_option maxRecDepth 65536 in
theorem w_c4 : (Jvm.Cond.code ({ cls := "tesserae/tetris/Features", name := "value", desc := "()D" } : Jvm.MethodName) prog_33_method_3_code (1 : Nat) (Option.some Jvm.ClassFile.FieldType.double)).before args0 about1 = true := code_word (m := ⟨3, 1⟩) (meth := k3m1) (c := k3c1) (by decide +kernel) rfl rfl rfl (by decide +kernel)
def codes1 : List Jvm.Cond := [Jvm.Cond.code x code maxLocals ret, Jvm.Cond.code ({ cls := "tesserae/tetris/Features", name := "<init>", desc := "(DIIIII)V" } : Jvm.MethodName) prog_33_method_1_code (8 : Nat) (Option.none : Option Jvm.ClassFile.FieldType), Jvm.Cond.code ({ cls := "java/lang/Record", name := "<init>", desc := "()V" } : Jvm.MethodName) jdk_30_method_1_code (1 : Nat) (Option.none : Option Jvm.ClassFile.FieldType), Jvm.Cond.code ({ cls := "java/lang/Object", name := "<init>", desc := "()V" } : Jvm.MethodName) object_method_1_code (1 : Nat) (Option.none : Option Jvm.ClassFile.FieldType), Jvm.Cond.code ({ cls := "tesserae/tetris/Features", name := "value", desc := "()D" } : Jvm.MethodName) prog_33_method_3_code (1 : Nat) (Option.some Jvm.ClassFile.FieldType.double)]
set_option maxRecDepth 65536 in
theorem codes_eq : words1.filter isCode = codes1 := rfl
theorem w_codes : ∀ c ∈ words1.filter isCode, c.before args0 about1 = true := by
  rw [codes_eq]
  intro c hc
  simp only [codes1, List.mem_cons, List.not_mem_nil, or_false] at hc
  rcases hc with rfl | rfl | rfl | rfl | rfl
  · exact w_c0
  · exact w_c1
  · exact w_c2
  · exact w_c3
  · exact w_c4
set_option maxRecDepth 65536 in
theorem w_t1 : (words1.take 24).all (fun c => isCode c || c.before args0 about1) = true := by decide +kernel
set_option maxRecDepth 65536 in
theorem w_t2 : (words1.drop 24).all (fun c => isCode c || c.before args0 about1) = true := by decide +kernel
theorem w_tables : (allAtoms (Jvm.Cond.code x code maxLocals ret :: tables_1)).before args0 about1 = true := by
  rw [allAtoms_all]
  show words1.all (fun c => c.before args0 about1) = true
  refine all_split ?_ w_codes
  rw [← List.take_append_drop 24 words1, List.all_append, w_t1, w_t2]
  rfl
set_option maxRecDepth 65536 in
theorem w_case : (Jvm.Cond.and given_1 narrow_1).before args0 about1 = true := by decide +kernel
theorem w_applies : (headSpec (Jvm.Cond.code x code maxLocals ret :: tables_1) room_1).applies x e0.platform about1 = true :=
  (Spec.applies_iff w_frames).mpr ⟨w_running, w_runnable, w_alone, w_named, w_hears, w_ripe, w_room, w_tables⟩
theorem atStart : AtStart classFile x code maxLocals ret World_1 tables_1 room_1 Calls_1 rest_1 Pre_1 launch0 p0 e0 about1 theMethod args0 below0 :=
  ⟨lists_1, trivial, launch0.admits_env _ _ _, launch0.least_env, fairChoices_fair.cas, fairChoices_fair.clock, w_frames, w_args, w_heap, w_applies, trivial, trivial, w_case⟩
end start1
theorem witness_1 : WitnessClaimed_1 := ⟨start1.p0, start1.e0, start1.about1, start1.theMethod, start1.args0, start1.below0, start1.atStart⟩
end Jvm.Pilot.@@N@@
