import JvmDerived
import JvmDerived.Pilot.@@N@@Statement
import JvmDerived.Pilot.@@N@@Code
set_option linter.unusedVariables false
set_option linter.unusedSimpArgs false
namespace Jvm.Pilot.@@N@@
open Jvm Jvm.ClassFile Sem Op Lib Jvm.Free Jvm.Stand Jvm.LawKit Jvm.RoadKit Bundle Jvm.Pilot.@@N@@.Jvm.D
/-! own_kit: a walk as 'what is left to do' (Go), contracts (Con), calls and returns in that form -/
/-- from F the run comes to an end of which P holds -/
def Go (tb : Tables) (e : Env) (below : List Frame) (P : Outcome → State → Prop) (F : State) : Prop :=
  ∃ s₂ o, Steps tb e below F s₂ ∧ s₂.status = .running ∧ Ended s₂ below o ∧ P o s₂
theorem Go.step {tb : Tables} {e : Env} {below : List Frame} {P : Outcome → State → Prop} {A B : State} (h : ∀ t, Steps tb e below B t → Steps tb e below A t) (k : Go tb e below P B) : Go tb e below P A := by
  obtain ⟨s₂, o, h1, h2, h3, h4⟩ := k
  exact ⟨s₂, o, h _ h1, h2, h3, h4⟩
theorem Go.via {tb : Tables} {e : Env} {below : List Frame} {P : Outcome → State → Prop} {A B : State} (h : Steps tb e below A B) (k : Go tb e below P B) : Go tb e below P A :=
  Go.step (fun t q => h.trans q) k
/-- how a walk ends: it returns v, Q holds of v, the heap and the places written; at most C cells and S slots were made -/
def EndsAs (s : State) (C S : Nat) (Q : Option Value → Heap → List Loc → Prop) (o : Outcome) (U : State) : Prop :=
  ∃ v L, o = .returned v ∧ Q v U.heap L ∧ FrameEnd s o U L C S
/-- the contract of a body at arguments 'as' and heap h0 -/
abbrev Con (l : Launch) (Z : State) (y : MethodName) (bytes : ByteArray) (mx : Nat) (ret : Option FieldType) (ws : List Jvm.Cond) (rm : Room) (as : Array Value) (h0 : Heap) (Q : Option Value → Heap → List Loc → Prop) : Prop :=
  MetFree l y (head1 (Jvm.Cond.code y bytes mx ret :: ws) rm) (fun a U => a = as ∧ Z.Warmed39 U.vm ∧ U.heap = h0) (fun _ _ _ _ _ => True) (fun _ U o U' => ∃ v L, o = .returned v ∧ Q v U'.heap L ∧ FrameEnd U o U' L rm.cells rm.slots)
theorem Con.of {l : Launch} {Z : State} {y : MethodName} {bytes : ByteArray} {mx : Nat} {ret : Option FieldType} {ws : List Jvm.Cond} {rm : Room} {as : Array Value} {h0 : Heap} {Q : Option Value → Heap → List Loc → Prop} (hpl : plainFor y = true)
    (body : ∀ (p : Program) (e : Env) (s : State) (m : MethodId) (below : List Frame) (meth : Method) (c : Code) (s₁ : State), Z.Warmed39 s.vm → p.tables.exec = Jvm.exec → c.code = bytes → c.maxLocals = mx → s.vm.findClass y.cls = some m.cls → meth.sig.returnType = ret → meth.locks = false → meth.name = y.name →
      Stand p l e rm s m as below meth c s₁ [] 0 0 → s₁.heap = h0 → Go p.tables e below (EndsAs s rm.cells rm.slots Q) (s₁.setTop (entryFrame m as mx))) :
    Con l Z y bytes mx ret ws rm as h0 Q := by
  refine MetFree.of_bodySF hpl hisR ?_
  intro p e s m args below meth c s₁ Bd hml0 hP hK
  obtain ⟨rfl, hZ, hh⟩ := hP
  exact body p e s m below meth c s₁ hZ Bd.exec Bd.bytes hml0 (findClass_of_methodNamed Bd.named) Bd.returns Bd.notSynchronized (name_of_methodNamed Bd.named Bd.method).1 (Stand.of_body Bd) (by rw [← hh, Bd.state]; rfl)
section Kit
variable {p : Program} {l : Launch} {e : Env} {R : Room} {s : State} {m : MethodId} {args : Array Value} {below : List Frame} {meth : Method} {c : Code} {T : State} {locs : List Loc} {cells slots : Nat} {Z : State} {a0 : Array Value} {h : Heap}
theorem leafO (X : Stand p l e R s m args below meth c T locs cells slots) (hx : p.tables.exec = Jvm.exec) {t : FieldType} (hret : meth.sig.returnType = some t) (hlk : meth.locks = false) {pc : Nat} {Ls : Array Slot} {w : Value} {i : Instr} {rest : List Value} (hn : narrow t w = w)
    (hi : (i = .ireturn ∧ (t = .int ∨ t = .boolean ∨ t = .byte ∨ t = .char ∨ t = .short) ∧ ∃ z, w = .int z) ∨ (i = .lreturn ∧ t = .long ∧ ∃ z, w = .long z) ∨ (i = .dreturn ∧ t = .double ∧ ∃ z, w = .double z) ∨ (i = .freturn ∧ t = .float ∧ ∃ z, w = .float z) ∨ (i = .areturn ∧ t.isReference = true ∧ w.isRef = true))
    (hd : decode c.code pc = .ok (i, 1)) {Q : Option Value → Heap → List Loc → Prop} {C S : Nat} (hQ : Q (some w) T.heap locs) (hC : cells ≤ C) (hS : slots ≤ S) :
    Go p.tables e below (EndsAs s C S Q) (T.setTop (mkF m pc Ls (w :: rest))) := by
  obtain ⟨fs, hr, hrun, hended, hW, hsame⟩ := X.leave (v := some w) (fun h => by rw [hret] at h; cases h) hlk
  exact ⟨_, _, retOut X hx hret hn hi hd hr, hrun, hended, _, _, rfl, hQ, ⟨_, rfl⟩, hW, hsame.mono hC hS⟩
theorem leafI (X : Stand p l e R s m args below meth c T locs cells slots) (hx : p.tables.exec = Jvm.exec) (hret : meth.sig.returnType = some .int) (hlk : meth.locks = false) {pc : Nat} {Ls : Array Slot} {z : Int32} {rest : List Value}
    (hd : decode c.code pc = .ok (.ireturn, 1)) {Q : Option Value → Heap → List Loc → Prop} {C S : Nat} (hQ : Q (some (.int z)) T.heap locs) (hC : cells ≤ C) (hS : slots ≤ S) :
    Go p.tables e below (EndsAs s C S Q) (T.setTop (mkF m pc Ls (.int z :: rest))) :=
  leafO X hx hret hlk rfl (Or.inl ⟨rfl, Or.inl rfl, _, rfl⟩) hd hQ hC hS
theorem leafJ (X : Stand p l e R s m args below meth c T locs cells slots) (hx : p.tables.exec = Jvm.exec) (hret : meth.sig.returnType = some .long) (hlk : meth.locks = false) {pc : Nat} {Ls : Array Slot} {z : Int64} {rest : List Value}
    (hd : decode c.code pc = .ok (.lreturn, 1)) {Q : Option Value → Heap → List Loc → Prop} {C S : Nat} (hQ : Q (some (.long z)) T.heap locs) (hC : cells ≤ C) (hS : slots ≤ S) :
    Go p.tables e below (EndsAs s C S Q) (T.setTop (mkF m pc Ls (.long z :: rest))) :=
  leafO X hx hret hlk rfl (Or.inr (Or.inl ⟨rfl, rfl, _, rfl⟩)) hd hQ hC hS
theorem leafA (X : Stand p l e R s m args below meth c T locs cells slots) (hx : p.tables.exec = Jvm.exec) {t : FieldType} (hret : meth.sig.returnType = some t) (ht : t.isReference = true) (hlk : meth.locks = false) {pc : Nat} {Ls : Array Slot} {w : Value} {rest : List Value} (hw : w.isRef = true) (hn : narrow t w = w)
    (hd : decode c.code pc = .ok (.areturn, 1)) {Q : Option Value → Heap → List Loc → Prop} {C S : Nat} (hQ : Q (some w) T.heap locs) (hC : cells ≤ C) (hS : slots ≤ S) :
    Go p.tables e below (EndsAs s C S Q) (T.setTop (mkF m pc Ls (w :: rest))) :=
  leafO X hx hret hlk hn (Or.inr (Or.inr (Or.inr (Or.inr ⟨rfl, ht, hw⟩)))) hd hQ hC hS
theorem leafN (X : Stand p l e R s m args below meth c T locs cells slots) (hx : p.tables.exec = Jvm.exec) {t : FieldType} (hret : meth.sig.returnType = some t) (ht : t = .boolean ∨ t = .byte ∨ t = .char ∨ t = .short) (hlk : meth.locks = false) {pc : Nat} {Ls : Array Slot} {z w : Int32} {rest : List Value} (hw : nar t z = w)
    (hd : decode c.code pc = .ok (.ireturn, 1)) {Q : Option Value → Heap → List Loc → Prop} {C S : Nat} (hQ : Q (some (.int w)) T.heap locs) (hC : cells ≤ C) (hS : slots ≤ S) :
    Go p.tables e below (EndsAs s C S Q) (T.setTop (mkF m pc Ls (.int z :: rest))) := by
  subst hw
  obtain ⟨fs, hr, hrun, hended, hW, hsame⟩ := X.leave (v := some (.int (nar t z))) (fun h => by rw [hret] at h; cases h) hlk
  exact ⟨_, _, retN X hx hret ht hd hr, hrun, hended, _, _, rfl, hQ, ⟨_, rfl⟩, hW, hsame.mono hC hS⟩
theorem leafV (X : Stand p l e R s m args below meth c T locs cells slots) (hx : p.tables.exec = Jvm.exec) (hret : meth.sig.returnType = none) (hlk : meth.locks = false) {pc : Nat} {Ls : Array Slot}
    (hd : decode c.code pc = .ok (.return_, 1)) {Q : Option Value → Heap → List Loc → Prop} {C S : Nat} (hQ : Q none T.heap locs) (hC : cells ≤ C) (hS : slots ≤ S) :
    Go p.tables e below (EndsAs s C S Q) (T.setTop (mkF m pc Ls [])) := by
  obtain ⟨fs, hr, hrun, hended, hW, hsame⟩ := X.leave (v := none) (fun _ => rfl) hlk
  exact ⟨_, _, X.returnOut hx hret hd hr, hrun, hended, _, _, rfl, hQ, ⟨_, rfl⟩, hW, hsame.mono hC hS⟩
theorem goS (X : Stand p l e R s m args below meth c T locs cells slots) (hx : p.tables.exec = Jvm.exec) (hZ : Z.Warmed39 s.vm) {own : String} {index : Nat} {y : MethodName} {bytes : ByteArray} {maxL : Nat} {ret : Option FieldType} (hown : s.vm.findClass own = some m.cls)
    (w1 : (Jvm.Cond.methodLink own index y).before a0 Z = true) (w2 : (Jvm.Cond.static y).before a0 Z = true) (w3 : (Jvm.Cond.initialized y.cls).before a0 Z = true) (w4 : (Jvm.Cond.code y bytes maxL ret).before a0 Z = true)
    (hy : y.cls ≠ "java/lang/invoke/MethodHandle" ∧ y.cls ≠ "java/lang/invoke/VarHandle") {rm : Room} {as : Array Value} {Qc : Option Value → Heap → List Loc → Prop} (hM : Con l Z y bytes maxL ret [] rm as h Qc) (eT : T.heap = h)
    {pc : Nat} {Ls : Array Slot} {st : List Value} (hsize : Ls.size = c.maxLocals) (argsL rest : List Value) (has : argsL.toArray = as) {ps : List FieldType} {r : Option FieldType} (hpd : parseMethodDescriptor y.desc = some ⟨ps, r⟩) (hlen : argsL.length = ps.length) (hst : st = argsL.reverse ++ rest)
    (W : Nat) (hW : (rest.map fun v => v.category).sum = W) (hd : decode c.code pc = .ok (.invokestatic index, 3)) (hf : rm.frames + 1 ≤ R.frames) (hl : W + (maxL + 11) + rm.locals ≤ R.locals) (hc : cells + rm.cells ≤ R.cells) (hs : slots + rm.slots ≤ R.slots) {P : Outcome → State → Prop}
    (k : ∀ (T' : State) (L : List Loc) (v : Option Value), Qc v T'.heap L → Stand p l e R s m args below meth c T' (locs ++ L) (cells + rm.cells) (slots + rm.slots) → Go p.tables e below P (T'.setTop (mkF m (pc + 3) Ls (v.toList ++ rest)))) :
    Go p.tables e below P (T.setTop (mkF m pc Ls st)) := by
  subst hst
  obtain ⟨v, _, ⟨T', L', k', n'⟩, -, X', ⟨L, hQ, q1, q2, q3⟩, st⟩ := Jvm.LawKit.callS X hx (y := y) hown (mvT hZ w1) (mvT hZ w2) (mvT hZ w3) (mvT hZ w4) hy (backOf (W := W) hM hZ w4 w3 hf hl) (g := mkF m pc Ls (argsL.reverse ++ rest)) rfl hsize (argsL := argsL) (rest := rest) (lenOf hpd hlen) rfl (by show 2 * 0 + _ ≤ _; omega) hd (fun _ _ => ⟨has, eT, hc, hs⟩)
  dsimp only [Pt.U, Pt.locs, Pt.cells, Pt.slots] at X' q1 q2 q3 st hQ
  subst q1 q2 q3
  exact Go.step st (k T' L v hQ X')
theorem goI (X : Stand p l e R s m args below meth c T locs cells slots) (hx : p.tables.exec = Jvm.exec) (hZ : Z.Warmed39 s.vm) {own : String} {index : Nat} {y : MethodName} {bytes : ByteArray} {maxL : Nat} (hy1 : y.name = "<init>") (hown : s.vm.findClass own = some m.cls)
    (w1 : (Jvm.Cond.methodLink own index y).before a0 Z = true) (w2 : (Jvm.Cond.instanceMethod y).before a0 Z = true) (w3 : (Jvm.Cond.initialized y.cls).before a0 Z = true) (w4 : (Jvm.Cond.code y bytes maxL none).before a0 Z = true)
    (hy : y.cls ≠ "java/lang/invoke/MethodHandle" ∧ y.cls ≠ "java/lang/invoke/VarHandle") {rm : Room} {as : Array Value} {Qc : Option Value → Heap → List Loc → Prop} (hM : Con l Z y bytes maxL none [] rm as h Qc) (eT : T.heap = h)
    {pc : Nat} {Ls : Array Slot} {st : List Value} (hsize : Ls.size = c.maxLocals) (a : Addr) (argsL rest : List Value) (has : (Value.ref a :: argsL).toArray = as) {ps : List FieldType} {r : Option FieldType} (hpd : parseMethodDescriptor y.desc = some ⟨ps, r⟩) (hlen : argsL.length = ps.length) (hst : st = argsL.reverse ++ .ref a :: rest)
    (W : Nat) (hW : (rest.map fun v => v.category).sum = W) (hd : decode c.code pc = .ok (.invokespecial index, 3)) (hf : rm.frames + 1 ≤ R.frames) (hl : W + (maxL + 11) + rm.locals ≤ R.locals) (hc : cells + rm.cells ≤ R.cells) (hs : slots + rm.slots ≤ R.slots) {P : Outcome → State → Prop}
    (k : ∀ (T' : State) (L : List Loc) (v : Option Value), Qc v T'.heap L → Stand p l e R s m args below meth c T' (locs ++ L) (cells + rm.cells) (slots + rm.slots) → Go p.tables e below P (T'.setTop (mkF m (pc + 3) Ls (v.toList ++ rest)))) :
    Go p.tables e below P (T.setTop (mkF m pc Ls st)) := by
  subst hst
  obtain ⟨v, _, ⟨T', L', k', n'⟩, -, X', ⟨L, hQ, q1, q2, q3⟩, st⟩ := X.specialBack hx (y := y) hy1 hown (mvT hZ w1) (mvT hZ w2) (mvT hZ w4) hy (backOf (W := W) hM hZ w4 w3 hf hl) (g := mkF m pc Ls (argsL.reverse ++ .ref a :: rest)) rfl hsize (Steps.refl _) (a := a) (argsL := argsL) (rest := rest) (lenOf hpd hlen) rfl (by show 2 * 0 + _ ≤ _; omega) hd (fun _ _ => ⟨has, eT, hc, hs⟩)
  dsimp only [Pt.U, Pt.locs, Pt.cells, Pt.slots] at X' q1 q2 q3 st hQ
  subst q1 q2 q3
  exact Go.via st (k T' L v hQ X')
theorem goV (X : Stand p l e R s m args below meth c T locs cells slots) (hx : p.tables.exec = Jvm.exec) (hZ : Z.Warmed39 s.vm) {own C : String} {index : Nat} {y z : MethodName} {bytes : ByteArray} {maxL : Nat} {ret : Option FieldType} (hown : s.vm.findClass own = some m.cls)
    (w1 : (Jvm.Cond.methodLink own index y).before a0 Z = true) (w2 : (Jvm.Cond.declares y).before a0 Z = true) (hnf : NotFace s y) (w5 : (Jvm.Cond.selects C y z).before a0 Z = true) (w6 : (Jvm.Cond.instanceMethod z).before a0 Z = true) (w3 : (Jvm.Cond.initialized z.cls).before a0 Z = true) (w4 : (Jvm.Cond.code z bytes maxL ret).before a0 Z = true)
    (hy : y.cls ≠ "java/lang/invoke/MethodHandle" ∧ y.cls ≠ "java/lang/invoke/VarHandle") {rm : Room} {as : Array Value} {Qc : Option Value → Heap → List Loc → Prop} (hM : Con l Z z bytes maxL ret [] rm as h Qc) (eT : T.heap = h)
    {a : Addr} (E : Exa Z h a C) {pc : Nat} {Ls : Array Slot} {st : List Value} (hsize : Ls.size = c.maxLocals) (argsL rest : List Value) (has : (Value.ref a :: argsL).toArray = as) {ps : List FieldType} {r : Option FieldType} (hpd : parseMethodDescriptor y.desc = some ⟨ps, r⟩) (hlen : argsL.length = ps.length) (hst : st = argsL.reverse ++ .ref a :: rest)
    (W : Nat) (hW : (rest.map fun v => v.category).sum = W) (hd : decode c.code pc = .ok (.invokevirtual index, 3)) (hf : rm.frames + 1 ≤ R.frames) (hl : W + (maxL + 11) + rm.locals ≤ R.locals) (hc : cells + rm.cells ≤ R.cells) (hs : slots + rm.slots ≤ R.slots) {P : Outcome → State → Prop}
    (k : ∀ (T' : State) (L : List Loc) (v : Option Value), Qc v T'.heap L → Stand p l e R s m args below meth c T' (locs ++ L) (cells + rm.cells) (slots + rm.slots) → Go p.tables e below P (T'.setTop (mkF m (pc + 3) Ls (v.toList ++ rest)))) :
    Go p.tables e below P (T.setTop (mkF m pc Ls st)) := by
  subst hst
  obtain ⟨cq, kq, qa, qb, qc⟩ := isOf hZ eT E
  obtain ⟨v, _, ⟨T', L', k', n'⟩, -, X', ⟨L, hQ, q1, q2, q3⟩, st⟩ := X.virtualBack hx (y := y) (z := z) hown (mvT hZ w1) (mvT hZ w2) hnf (mvT hZ w5) (mvT hZ w6) hy (backOf (W := W) hM hZ w4 w3 hf hl) qa qc (g := mkF m pc Ls (argsL.reverse ++ .ref a :: rest)) rfl hsize (Steps.refl _) (argsL := argsL) (rest := rest) (lenOf hpd hlen) rfl (by show 2 * 0 + _ ≤ _; omega) hd (fun _ _ => ⟨has, eT, hc, hs⟩)
  dsimp only [Pt.U, Pt.locs, Pt.cells, Pt.slots] at X' q1 q2 q3 st hQ
  subst q1 q2 q3
  exact Go.via st (k T' L v hQ X')
end Kit

/-! plain facts -/
def own_max (m : Int32) : Int32 := if m = 2 then 29 else if m = 4 ∨ m = 6 ∨ m = 9 ∨ m = 11 then 30 else 31
def own_ev (n : Int32) : Int32 := if n = 93 then 0 else 1
theorem own_irem (x y : Int32) : x - (x / y) * y = x % y := by
  apply Int32.toInt_inj.mp
  have h1 := (x % y).le_toInt
  have h2 := (x % y).toInt_lt
  have e : (x - (x / y) * y).toInt = ((x % y).toInt).bmod (2 ^ 32) := by
    rw [Int32.toInt_sub, Int32.toInt_mul, Int32.toInt_div, Int32.toInt_mod, Int.tmod_def, Int.bmod_mul_bmod, Int.sub_bmod_bmod, Int.mul_comm y.toInt]
  rw [e]
  exact Int.bmod_eq_of_le_mul_two (by omega) (by omega)
theorem own_maxb (m : Int32) : own_max m = 29 ∨ own_max m = 30 ∨ own_max m = 31 := by
  unfold own_max; split
  · simp
  · split <;> simp
theorem own_maxz (m : Int32) : own_max m ≠ 0 := by rcases own_maxb m with h | h | h <;> rw [h] <;> decide
theorem own_remb (a k : Int32) (K : Int) (hk : k.toInt = K) (h0 : 0 < K) (h1 : K < 100) : 1 ≤ ((a &&& (2147483647 : Int32)) - ((a &&& (2147483647 : Int32)) / k) * k + (1 : Int32)).toInt ∧ ((a &&& (2147483647 : Int32)) - ((a &&& (2147483647 : Int32)) / k) * k + (1 : Int32)).toInt ≤ K := by
  have p0 : 0 ≤ (a &&& (2147483647 : Int32)).toInt := (c_andS a 2147483647).2.2 (by decide)
  have e : (a &&& (2147483647 : Int32)) - ((a &&& (2147483647 : Int32)) / k) * k = (a &&& (2147483647 : Int32)) % k := own_irem _ _
  rw [e]
  have h2 := (c_irem (a &&& (2147483647 : Int32)) k K hk).1 p0
  have h3 := c_iadd ((a &&& (2147483647 : Int32)) % k) 1
  have e1 : (1 : Int32).toInt = 1 := rfl
  have l1 := (((a &&& (2147483647 : Int32)) % k) + 1).toInt_lt
  have l2 := (((a &&& (2147483647 : Int32)) % k) + 1).le_toInt
  have h4 := Int.emod_nonneg (a &&& (2147483647 : Int32)).toInt (show K ≠ 0 by omega)
  have h5 := Int.emod_lt_of_pos (a &&& (2147483647 : Int32)).toInt h0
  rw [h2, e1] at h3
  omega
theorem own_day (a m : Int32) : 1 ≤ ((a &&& (2147483647 : Int32)) - ((a &&& (2147483647 : Int32)) / (own_max m)) * (own_max m) + (1 : Int32)).toInt ∧ ((a &&& (2147483647 : Int32)) - ((a &&& (2147483647 : Int32)) / (own_max m)) * (own_max m) + (1 : Int32)).toInt ≤ 31 := by
  rcases own_maxb m with h | h | h
  · rw [h]; have := own_remb a 29 29 rfl (by decide) (by decide); omega
  · rw [h]; have := own_remb a 30 30 rfl (by decide) (by decide); omega
  · rw [h]; have := own_remb a 31 31 rfl (by decide) (by decide); omega
theorem own_num (m d : Int32) (h1 : 1 ≤ m.toInt) (h2 : m.toInt ≤ 12) (h3 : 1 ≤ d.toInt) (h4 : d.toInt ≤ 31) : m * (32 : Int32) + d = 93 ↔ m = 2 ∧ d = 29 := by
  have a1 := c_imul m 32
  have a2 := c_iadd (m * 32) d
  have e1 : (32 : Int32).toInt = 32 := rfl
  have l1 := (m * 32).toInt_lt; have l2 := (m * 32).le_toInt
  have l3 := (m * 32 + d).toInt_lt; have l4 := (m * 32 + d).le_toInt
  rw [e1] at a1
  rw [← Int32.toInt_inj, ← Int32.toInt_inj, ← Int32.toInt_inj]
  have e2 : (93 : Int32).toInt = 93 := rfl
  have e3 : (2 : Int32).toInt = 2 := rfl
  have e4 : (29 : Int32).toInt = 29 := rfl
  rw [e2, e3, e4]
  omega

theorem d1_0 : decode method_3_code 0 = .ok (.iload_n 0, 1) := by decide +kernel
theorem d1_1 : decode method_3_code 1 = .ok (.iconst 2, 1) := by decide +kernel
theorem d1_2 : decode method_3_code 2 = .ok (.if_icmp .ne 6, 3) := by decide +kernel
theorem d1_5 : decode method_3_code 5 = .ok (.bipush 29, 2) := by decide +kernel
theorem d1_7 : decode method_3_code 7 = .ok (.ireturn, 1) := by decide +kernel
theorem d1_8 : decode method_3_code 8 = .ok (.iload_n 0, 1) := by decide +kernel
theorem d1_9 : decode method_3_code 9 = .ok (.iconst 4, 1) := by decide +kernel
theorem d1_10 : decode method_3_code 10 = .ok (.if_icmp .eq 21, 3) := by decide +kernel
theorem d1_13 : decode method_3_code 13 = .ok (.iload_n 0, 1) := by decide +kernel
theorem d1_14 : decode method_3_code 14 = .ok (.bipush 6, 2) := by decide +kernel
theorem d1_16 : decode method_3_code 16 = .ok (.if_icmp .eq 15, 3) := by decide +kernel
theorem d1_19 : decode method_3_code 19 = .ok (.iload_n 0, 1) := by decide +kernel
theorem d1_20 : decode method_3_code 20 = .ok (.bipush 9, 2) := by decide +kernel
theorem d1_22 : decode method_3_code 22 = .ok (.if_icmp .eq 9, 3) := by decide +kernel
theorem d1_25 : decode method_3_code 25 = .ok (.iload_n 0, 1) := by decide +kernel
theorem d1_26 : decode method_3_code 26 = .ok (.bipush 11, 2) := by decide +kernel
theorem d1_28 : decode method_3_code 28 = .ok (.if_icmp .ne 6, 3) := by decide +kernel
theorem d1_31 : decode method_3_code 31 = .ok (.bipush 30, 2) := by decide +kernel
theorem d1_33 : decode method_3_code 33 = .ok (.ireturn, 1) := by decide +kernel
theorem d1_34 : decode method_3_code 34 = .ok (.bipush 31, 2) := by decide +kernel
theorem d1_36 : decode method_3_code 36 = .ok (.ireturn, 1) := by decide +kernel
theorem pn1 : plainFor (⟨"com/example/pledgebook/pledgebook/MonthDaysInEveryYearPinLaw", "maxLength", "(I)I"⟩ : MethodName) = true := plainFor_of_name (by first | (simp [plainName, overriddenIn]; done) | decide +kernel)
theorem pd1 : parseMethodDescriptor "(I)I" = some ⟨[.int], some .int⟩ := by decide +kernel
theorem ef1 (m : MethodId) (x0 : Int32) : entryFrame m #[(.int x0)] 1 = mkF m 0 #[.val (.int x0)] [] := by first | (simp [entryFrame, mkF, argsToLocals, Value.category]; done) | rfl
theorem d2_0 : decode prog_23_method_4_code 0 = .ok (.iload_n 0, 1) := by decide +kernel
theorem d2_1 : decode prog_23_method_4_code 1 = .ok (.bipush 32, 2) := by decide +kernel
theorem d2_3 : decode prog_23_method_4_code 3 = .ok (.imul, 1) := by decide +kernel
theorem d2_4 : decode prog_23_method_4_code 4 = .ok (.iload_n 1, 1) := by decide +kernel
theorem d2_5 : decode prog_23_method_4_code 5 = .ok (.iadd, 1) := by decide +kernel
theorem d2_6 : decode prog_23_method_4_code 6 = .ok (.ireturn, 1) := by decide +kernel
theorem pn2 : plainFor (⟨"com/example/pledgebook/pledgebook/MonthDays", "number", "(II)I"⟩ : MethodName) = true := plainFor_of_name (by first | (simp [plainName, overriddenIn]; done) | decide +kernel)
theorem pd2 : parseMethodDescriptor "(II)I" = some ⟨[.int, .int], some .int⟩ := by decide +kernel
theorem ef2 (m : MethodId) (x0 : Int32) (x1 : Int32) : entryFrame m #[(.int x0), (.int x1)] 2 = mkF m 0 #[.val (.int x0), .val (.int x1)] [] := by first | (simp [entryFrame, mkF, argsToLocals, Value.category]; done) | rfl
theorem d3_0 : decode prog_23_method_11_code 0 = .ok (.iload_n 0, 1) := by decide +kernel
theorem d3_1 : decode prog_23_method_11_code 1 = .ok (.getstatic 76, 3) := by decide +kernel
theorem d3_4 : decode prog_23_method_11_code 4 = .ok (.if_icmp .eq 7, 3) := by decide +kernel
theorem d3_7 : decode prog_23_method_11_code 7 = .ok (.iconst 1, 1) := by decide +kernel
theorem d3_8 : decode prog_23_method_11_code 8 = .ok (.goto 4, 3) := by decide +kernel
theorem d3_11 : decode prog_23_method_11_code 11 = .ok (.iconst 0, 1) := by decide +kernel
theorem d3_12 : decode prog_23_method_11_code 12 = .ok (.ireturn, 1) := by decide +kernel
theorem pn3 : plainFor (⟨"com/example/pledgebook/pledgebook/MonthDays", "inEveryYear", "(I)Z"⟩ : MethodName) = true := plainFor_of_name (by first | (simp [plainName, overriddenIn]; done) | decide +kernel)
theorem pd3 : parseMethodDescriptor "(I)Z" = some ⟨[.int], some .boolean⟩ := by decide +kernel
theorem ef3 (m : MethodId) (x0 : Int32) : entryFrame m #[(.int x0)] 1 = mkF m 0 #[.val (.int x0)] [] := by first | (simp [entryFrame, mkF, argsToLocals, Value.category]; done) | rfl
set_option maxRecDepth 65536 in
set_option maxHeartbeats 40000000 in
theorem rm1 (l : Launch) (Z : State) (a0 : Array Value) (hw : ∀ d ∈ tables_1, d.before a0 Z = true) (ws : List Jvm.Cond) (x0 : Int32) (h0 : Heap) : Con l Z (⟨"com/example/pledgebook/pledgebook/MonthDaysInEveryYearPinLaw", "maxLength", "(I)I"⟩ : MethodName) method_3_code 1 (some .int) ws ({ frames := 0, cells := 0, slots := 0, locals := 0 } : Room) #[(.int x0)] h0 (fun v h L => v = some (.int (own_max x0)) ∧ h = h0 ∧ L = []) := by
  refine Con.of pn1 fun p e s m below meth c s₁ hZ hx hby hml hown hret hlk hnm X0 e0 => ?_
  rw [ef1]
  show Go _ _ _ _ (s₁.setTop (mkF m 0 #[.val (.int x0)] []))
  refine Go.step (fun _ k => XS.iloadN X0.here hx rfl (hb hby d1_0) rfl k) ?_
  show Go _ _ _ _ (s₁.setTop (mkF m 1 #[.val (.int x0)] [(.int x0)]))
  refine Go.step (fun _ k => XS.iconst X0.here hx rfl (hb hby d1_1) k) ?_
  show Go _ _ _ _ (s₁.setTop (mkF m 2 #[.val (.int x0)] [(.int (2 : Int32)), (.int x0)]))
  by_cases hc1 : x0 = (2 : Int32)
  · refine Go.step (fun _ k => XS.icmpNo X0.here hx rfl (hb hby d1_2) rfl (teq hc1).2 k) ?_
    show Go _ _ _ _ (s₁.setTop (mkF m 5 #[.val (.int x0)] []))
    refine Go.step (fun _ k => XS.bipush X0.here hx rfl (hb hby d1_5) k) ?_
    show Go _ _ _ _ (s₁.setTop (mkF m 7 #[.val (.int x0)] [(.int (29 : Int32))]))
    exact leafI X0 hx hret hlk (hb hby d1_7) ⟨by simp [own_max, hc1], e0, rfl⟩ (by decide) (by decide)
  · refine Go.step (fun _ k => XS.icmpYes X0.here hx rfl (pc0 := 2) (pc' := 8) rfl (hb hby d1_2) rfl (feq hc1).2 (by decide) (by decide) k) ?_
    show Go _ _ _ _ (s₁.setTop (mkF m 8 #[.val (.int x0)] []))
    refine Go.step (fun _ k => XS.iloadN X0.here hx rfl (hb hby d1_8) rfl k) ?_
    show Go _ _ _ _ (s₁.setTop (mkF m 9 #[.val (.int x0)] [(.int x0)]))
    refine Go.step (fun _ k => XS.iconst X0.here hx rfl (hb hby d1_9) k) ?_
    show Go _ _ _ _ (s₁.setTop (mkF m 10 #[.val (.int x0)] [(.int (4 : Int32)), (.int x0)]))
    by_cases hc2 : x0 = (4 : Int32)
    · refine Go.step (fun _ k => XS.icmpYes X0.here hx rfl (pc0 := 10) (pc' := 31) rfl (hb hby d1_10) rfl (teq hc2).1 (by decide) (by decide) k) ?_
      show Go _ _ _ _ (s₁.setTop (mkF m 31 #[.val (.int x0)] []))
      refine Go.step (fun _ k => XS.bipush X0.here hx rfl (hb hby d1_31) k) ?_
      show Go _ _ _ _ (s₁.setTop (mkF m 33 #[.val (.int x0)] [(.int (30 : Int32))]))
      exact leafI X0 hx hret hlk (hb hby d1_33) ⟨by simp [own_max, hc1, hc2], e0, rfl⟩ (by decide) (by decide)
    · refine Go.step (fun _ k => XS.icmpNo X0.here hx rfl (hb hby d1_10) rfl (feq hc2).1 k) ?_
      show Go _ _ _ _ (s₁.setTop (mkF m 13 #[.val (.int x0)] []))
      refine Go.step (fun _ k => XS.iloadN X0.here hx rfl (hb hby d1_13) rfl k) ?_
      show Go _ _ _ _ (s₁.setTop (mkF m 14 #[.val (.int x0)] [(.int x0)]))
      refine Go.step (fun _ k => XS.bipush X0.here hx rfl (hb hby d1_14) k) ?_
      show Go _ _ _ _ (s₁.setTop (mkF m 16 #[.val (.int x0)] [(.int (6 : Int32)), (.int x0)]))
      by_cases hc3 : x0 = (6 : Int32)
      · refine Go.step (fun _ k => XS.icmpYes X0.here hx rfl (pc0 := 16) (pc' := 31) rfl (hb hby d1_16) rfl (teq hc3).1 (by decide) (by decide) k) ?_
        show Go _ _ _ _ (s₁.setTop (mkF m 31 #[.val (.int x0)] []))
        refine Go.step (fun _ k => XS.bipush X0.here hx rfl (hb hby d1_31) k) ?_
        show Go _ _ _ _ (s₁.setTop (mkF m 33 #[.val (.int x0)] [(.int (30 : Int32))]))
        exact leafI X0 hx hret hlk (hb hby d1_33) ⟨by simp [own_max, hc1, hc2, hc3], e0, rfl⟩ (by decide) (by decide)
      · refine Go.step (fun _ k => XS.icmpNo X0.here hx rfl (hb hby d1_16) rfl (feq hc3).1 k) ?_
        show Go _ _ _ _ (s₁.setTop (mkF m 19 #[.val (.int x0)] []))
        refine Go.step (fun _ k => XS.iloadN X0.here hx rfl (hb hby d1_19) rfl k) ?_
        show Go _ _ _ _ (s₁.setTop (mkF m 20 #[.val (.int x0)] [(.int x0)]))
        refine Go.step (fun _ k => XS.bipush X0.here hx rfl (hb hby d1_20) k) ?_
        show Go _ _ _ _ (s₁.setTop (mkF m 22 #[.val (.int x0)] [(.int (9 : Int32)), (.int x0)]))
        by_cases hc4 : x0 = (9 : Int32)
        · refine Go.step (fun _ k => XS.icmpYes X0.here hx rfl (pc0 := 22) (pc' := 31) rfl (hb hby d1_22) rfl (teq hc4).1 (by decide) (by decide) k) ?_
          show Go _ _ _ _ (s₁.setTop (mkF m 31 #[.val (.int x0)] []))
          refine Go.step (fun _ k => XS.bipush X0.here hx rfl (hb hby d1_31) k) ?_
          show Go _ _ _ _ (s₁.setTop (mkF m 33 #[.val (.int x0)] [(.int (30 : Int32))]))
          exact leafI X0 hx hret hlk (hb hby d1_33) ⟨by simp [own_max, hc1, hc2, hc3, hc4], e0, rfl⟩ (by decide) (by decide)
        · refine Go.step (fun _ k => XS.icmpNo X0.here hx rfl (hb hby d1_22) rfl (feq hc4).1 k) ?_
          show Go _ _ _ _ (s₁.setTop (mkF m 25 #[.val (.int x0)] []))
          refine Go.step (fun _ k => XS.iloadN X0.here hx rfl (hb hby d1_25) rfl k) ?_
          show Go _ _ _ _ (s₁.setTop (mkF m 26 #[.val (.int x0)] [(.int x0)]))
          refine Go.step (fun _ k => XS.bipush X0.here hx rfl (hb hby d1_26) k) ?_
          show Go _ _ _ _ (s₁.setTop (mkF m 28 #[.val (.int x0)] [(.int (11 : Int32)), (.int x0)]))
          by_cases hc5 : x0 = (11 : Int32)
          · refine Go.step (fun _ k => XS.icmpNo X0.here hx rfl (hb hby d1_28) rfl (teq hc5).2 k) ?_
            show Go _ _ _ _ (s₁.setTop (mkF m 31 #[.val (.int x0)] []))
            refine Go.step (fun _ k => XS.bipush X0.here hx rfl (hb hby d1_31) k) ?_
            show Go _ _ _ _ (s₁.setTop (mkF m 33 #[.val (.int x0)] [(.int (30 : Int32))]))
            exact leafI X0 hx hret hlk (hb hby d1_33) ⟨by simp [own_max, hc1, hc2, hc3, hc4, hc5], e0, rfl⟩ (by decide) (by decide)
          · refine Go.step (fun _ k => XS.icmpYes X0.here hx rfl (pc0 := 28) (pc' := 34) rfl (hb hby d1_28) rfl (feq hc5).2 (by decide) (by decide) k) ?_
            show Go _ _ _ _ (s₁.setTop (mkF m 34 #[.val (.int x0)] []))
            refine Go.step (fun _ k => XS.bipush X0.here hx rfl (hb hby d1_34) k) ?_
            show Go _ _ _ _ (s₁.setTop (mkF m 36 #[.val (.int x0)] [(.int (31 : Int32))]))
            exact leafI X0 hx hret hlk (hb hby d1_36) ⟨by simp [own_max, hc1, hc2, hc3, hc4, hc5], e0, rfl⟩ (by decide) (by decide)
set_option maxRecDepth 65536 in
set_option maxHeartbeats 40000000 in
theorem rm2 (l : Launch) (Z : State) (a0 : Array Value) (hw : ∀ d ∈ tables_1, d.before a0 Z = true) (ws : List Jvm.Cond) (x0 : Int32) (x1 : Int32) (h0 : Heap) : Con l Z (⟨"com/example/pledgebook/pledgebook/MonthDays", "number", "(II)I"⟩ : MethodName) prog_23_method_4_code 2 (some .int) ws ({ frames := 0, cells := 0, slots := 0, locals := 0 } : Room) #[(.int x0), (.int x1)] h0 (fun v h L => v = some (.int (x0 * (32 : Int32) + x1)) ∧ h = h0 ∧ L = []) := by
  refine Con.of pn2 fun p e s m below meth c s₁ hZ hx hby hml hown hret hlk hnm X0 e0 => ?_
  rw [ef2]
  show Go _ _ _ _ (s₁.setTop (mkF m 0 #[.val (.int x0), .val (.int x1)] []))
  refine Go.step (fun _ k => XS.iloadN X0.here hx rfl (hb hby d2_0) rfl k) ?_
  show Go _ _ _ _ (s₁.setTop (mkF m 1 #[.val (.int x0), .val (.int x1)] [(.int x0)]))
  refine Go.step (fun _ k => XS.bipush X0.here hx rfl (hb hby d2_1) k) ?_
  show Go _ _ _ _ (s₁.setTop (mkF m 3 #[.val (.int x0), .val (.int x1)] [(.int (32 : Int32)), (.int x0)]))
  refine Go.step (fun _ k => XS.imul X0.here hx rfl (hb hby d2_3) rfl k) ?_
  show Go _ _ _ _ (s₁.setTop (mkF m 4 #[.val (.int x0), .val (.int x1)] [(.int (x0 * (32 : Int32)))]))
  refine Go.step (fun _ k => XS.iloadN X0.here hx rfl (hb hby d2_4) rfl k) ?_
  show Go _ _ _ _ (s₁.setTop (mkF m 5 #[.val (.int x0), .val (.int x1)] [(.int x1), (.int (x0 * (32 : Int32)))]))
  refine Go.step (fun _ k => XS.iadd X0.here hx rfl (hb hby d2_5) rfl k) ?_
  show Go _ _ _ _ (s₁.setTop (mkF m 6 #[.val (.int x0), .val (.int x1)] [(.int ((x0 * (32 : Int32)) + x1))]))
  exact leafI X0 hx hret hlk (hb hby d2_6) ⟨rfl, e0, rfl⟩ (by decide) (by decide)
set_option maxRecDepth 65536 in
set_option maxHeartbeats 40000000 in
theorem rm3 (l : Launch) (Z : State) (a0 : Array Value) (hw : ∀ d ∈ tables_1, d.before a0 Z = true) (ws : List Jvm.Cond) (x0 : Int32) (h0 : Heap) (S0 : Sta Z h0 "com/example/pledgebook/pledgebook/MonthDays" "FEBRUARY_29" "I" (.int (93 : Int32))) : Con l Z (⟨"com/example/pledgebook/pledgebook/MonthDays", "inEveryYear", "(I)Z"⟩ : MethodName) prog_23_method_11_code 1 (some .boolean) ws ({ frames := 0, cells := 0, slots := 0, locals := 0 } : Room) #[(.int x0)] h0 (fun v h L => v = some (.int (own_ev x0)) ∧ h = h0 ∧ L = []) := by
  refine Con.of pn3 fun p e s m below meth c s₁ hZ hx hby hml hown hret hlk hnm X0 e0 => ?_
  rw [ef3]
  show Go _ _ _ _ (s₁.setTop (mkF m 0 #[.val (.int x0)] []))
  refine Go.step (fun _ k => XS.iloadN X0.here hx rfl (hb hby d3_0) rfl k) ?_
  show Go _ _ _ _ (s₁.setTop (mkF m 1 #[.val (.int x0)] [(.int x0)]))
  obtain ⟨T1, X1, e1, st1⟩ := getS2 X0 hx hZ hown (host := "") (Or.inl (hw _ (List.mem_of_getElem? (i := 12) rfl))) Via.refl e0 S0 (g := (mkF m 1 #[.val (.int x0)] [(.int x0)])) rfl (hb hby d3_1)
  refine Go.step st1 ?_
  show Go _ _ _ _ (T1.setTop (mkF m 4 #[.val (.int x0)] [(.int (93 : Int32)), (.int x0)]))
  by_cases hc2 : x0 = (93 : Int32)
  · refine Go.step (fun _ k => XS.icmpYes X1.here hx rfl (pc0 := 4) (pc' := 11) rfl (hb hby d3_4) rfl (teq hc2).1 (by decide) (by decide) k) ?_
    show Go _ _ _ _ (T1.setTop (mkF m 11 #[.val (.int x0)] []))
    refine Go.step (fun _ k => XS.iconst X1.here hx rfl (hb hby d3_11) k) ?_
    show Go _ _ _ _ (T1.setTop (mkF m 12 #[.val (.int x0)] [(.int (0 : Int32))]))
    exact leafN X1 hx (t := .boolean) hret (by simp) hlk (w := (0 : Int32)) rfl (hb hby d3_12) ⟨by simp [own_ev, hc2], e1, rfl⟩ (by decide) (by decide)
  · refine Go.step (fun _ k => XS.icmpNo X1.here hx rfl (hb hby d3_4) rfl (feq hc2).1 k) ?_
    show Go _ _ _ _ (T1.setTop (mkF m 7 #[.val (.int x0)] []))
    refine Go.step (fun _ k => XS.iconst X1.here hx rfl (hb hby d3_7) k) ?_
    show Go _ _ _ _ (T1.setTop (mkF m 8 #[.val (.int x0)] [(.int (1 : Int32))]))
    refine Go.step (fun _ k => XS.goto X1.here hx rfl (pc0 := 8) (pc' := 12) rfl (hb hby d3_8) (by decide) (by decide) k) ?_
    show Go _ _ _ _ (T1.setTop (mkF m 12 #[.val (.int x0)] [(.int (1 : Int32))]))
    exact leafN X1 hx (t := .boolean) hret (by simp) hlk (w := (1 : Int32)) rfl (hb hby d3_12) ⟨by simp [own_ev, hc2], e1, rfl⟩ (by decide) (by decide)
theorem pn0 : plainFor x = true := plainFor_of_name (by first | (simp [plainName, overriddenIn, x]; done) | decide +kernel)
theorem ef0 (m : MethodId) (x0 : Int32) (x1 : Int32) : entryFrame m #[(.int x0), (.int x1)] maxLocals = mkF m 0 #[.val (.int x0), .val (.int x1), .unset, .unset, .unset, .unset] [] := by first | (simp [entryFrame, mkF, argsToLocals, Value.category, maxLocals]; done) | rfl
set_option maxRecDepth 65536 in
set_option maxHeartbeats 40000000 in
theorem rm0 (l : Launch) (Z : State) (a0 : Array Value) (hw : ∀ d ∈ tables_1, d.before a0 Z = true) (ws : List Jvm.Cond) (x0 : Int32) (x1 : Int32) (h0 : Heap) (S0 : Sta Z h0 "com/example/pledgebook/pledgebook/MonthDays" "FEBRUARY_29" "I" (.int (93 : Int32))) : Con l Z x code maxLocals ret ws room_1 #[(.int x0), (.int x1)] h0 (fun v h L => v = some (.int 1) ∧ Fr h0.size L) := by
  refine Con.of pn0 fun p e s m below meth c s₁ hZ hx hby hml hown hret hlk hnm X0 e0 => ?_
  rw [ef0]
  show Go _ _ _ _ (s₁.setTop (mkF m 0 #[.val (.int x0), .val (.int x1), .unset, .unset, .unset, .unset] []))
  refine Go.step (fun _ k => XS.iloadN X0.here hx rfl (hb hby at_0) rfl k) ?_
  show Go _ _ _ _ (s₁.setTop (mkF m 1 #[.val (.int x0), .val (.int x1), .unset, .unset, .unset, .unset] [(.int x0)]))
  refine Go.step (X0.ldcInt hx hown (mvT hZ (hw _ (List.mem_of_getElem? (i := 0) rfl))) (g := (mkF m 1 #[.val (.int x0), .val (.int x1), .unset, .unset, .unset, .unset] [(.int x0)])) rfl (hb hby at_1)) ?_
  show Go _ _ _ _ (s₁.setTop (mkF m 3 #[.val (.int x0), .val (.int x1), .unset, .unset, .unset, .unset] [(.int (2147483647 : Int32)), (.int x0)]))
  refine Go.step (fun _ k => XS.iand X0.here hx rfl (hb hby at_3) rfl k) ?_
  show Go _ _ _ _ (s₁.setTop (mkF m 4 #[.val (.int x0), .val (.int x1), .unset, .unset, .unset, .unset] [(.int (x0 &&& (2147483647 : Int32)))]))
  refine Go.step (fun _ k => XS.bipush X0.here hx rfl (hb hby at_4) k) ?_
  show Go _ _ _ _ (s₁.setTop (mkF m 6 #[.val (.int x0), .val (.int x1), .unset, .unset, .unset, .unset] [(.int (12 : Int32)), (.int (x0 &&& (2147483647 : Int32)))]))
  refine Go.step (fun _ k => XS.irem X0.here hx rfl (hb hby at_6) rfl (by decide) k) ?_
  show Go _ _ _ _ (s₁.setTop (mkF m 7 #[.val (.int x0), .val (.int x1), .unset, .unset, .unset, .unset] [(.int ((x0 &&& (2147483647 : Int32)) - ((x0 &&& (2147483647 : Int32)) / (12 : Int32)) * (12 : Int32)))]))
  refine Go.step (fun _ k => XS.iconst X0.here hx rfl (hb hby at_7) k) ?_
  show Go _ _ _ _ (s₁.setTop (mkF m 8 #[.val (.int x0), .val (.int x1), .unset, .unset, .unset, .unset] [(.int (1 : Int32)), (.int ((x0 &&& (2147483647 : Int32)) - ((x0 &&& (2147483647 : Int32)) / (12 : Int32)) * (12 : Int32)))]))
  refine Go.step (fun _ k => XS.iadd X0.here hx rfl (hb hby at_8) rfl k) ?_
  show Go _ _ _ _ (s₁.setTop (mkF m 9 #[.val (.int x0), .val (.int x1), .unset, .unset, .unset, .unset] [(.int (((x0 &&& (2147483647 : Int32)) - ((x0 &&& (2147483647 : Int32)) / (12 : Int32)) * (12 : Int32)) + (1 : Int32)))]))
  refine Go.step (fun _ k => XS.istoreN X0.here hx rfl (hb hby at_9) rfl (l' := #[.val (.int x0), .val (.int x1), .val (.int (((x0 &&& (2147483647 : Int32)) - ((x0 &&& (2147483647 : Int32)) / (12 : Int32)) * (12 : Int32)) + (1 : Int32))), .unset, .unset, .unset]) rfl k) ?_
  show Go _ _ _ _ (s₁.setTop (mkF m 10 #[.val (.int x0), .val (.int x1), .val (.int (((x0 &&& (2147483647 : Int32)) - ((x0 &&& (2147483647 : Int32)) / (12 : Int32)) * (12 : Int32)) + (1 : Int32))), .unset, .unset, .unset] []))
  obtain ⟨mo, hmo⟩ : ∃ z, z = (((x0 &&& (2147483647 : Int32)) - ((x0 &&& (2147483647 : Int32)) / (12 : Int32)) * (12 : Int32)) + (1 : Int32)) := ⟨_, rfl⟩
  rw [← hmo]
  obtain ⟨m0, m1⟩ := own_remb x0 12 12 rfl (by decide) (by decide)
  rw [← hmo] at m0 m1
  show Go _ _ _ _ (s₁.setTop (mkF m 10 #[.val (.int x0), .val (.int x1), .val (.int mo), .unset, .unset, .unset] []))
  refine Go.step (fun _ k => XS.iloadN X0.here hx rfl (hb hby at_10) rfl k) ?_
  show Go _ _ _ _ (s₁.setTop (mkF m 11 #[.val (.int x0), .val (.int x1), .val (.int mo), .unset, .unset, .unset] [(.int mo)]))
  refine goS X0 hx hZ hown (hw _ (List.mem_of_getElem? (i := 1) rfl)) (hw _ (List.mem_of_getElem? (i := 2) rfl)) (hw _ (List.mem_of_getElem? (i := 3) rfl)) (hw _ (List.mem_of_getElem? (i := 4) rfl)) (by decide) (rm1 l Z a0 hw [] mo h0) e0 (by rw [hml]; rfl) [(.int mo)] [] rfl pd1 rfl rfl 0 rfl (hb hby at_11) (by decide) (by decide) (by decide) (by decide) fun T1 L1 v1 q1 X1 => ?_
  obtain ⟨rfl, e1, rfl⟩ := q1
  rw [List.append_nil] at X1
  show Go _ _ _ _ (T1.setTop (mkF m 14 #[.val (.int x0), .val (.int x1), .val (.int mo), .unset, .unset, .unset] [(.int (own_max mo))]))
  refine Go.step (fun _ k => XS.istoreN X1.here hx rfl (hb hby at_14) rfl (l' := #[.val (.int x0), .val (.int x1), .val (.int mo), .val (.int (own_max mo)), .unset, .unset]) rfl k) ?_
  show Go _ _ _ _ (T1.setTop (mkF m 15 #[.val (.int x0), .val (.int x1), .val (.int mo), .val (.int (own_max mo)), .unset, .unset] []))
  refine Go.step (fun _ k => XS.iloadN X1.here hx rfl (hb hby at_15) rfl k) ?_
  show Go _ _ _ _ (T1.setTop (mkF m 16 #[.val (.int x0), .val (.int x1), .val (.int mo), .val (.int (own_max mo)), .unset, .unset] [(.int x1)]))
  refine Go.step (X1.ldcInt hx hown (mvT hZ (hw _ (List.mem_of_getElem? (i := 0) rfl))) (g := (mkF m 16 #[.val (.int x0), .val (.int x1), .val (.int mo), .val (.int (own_max mo)), .unset, .unset] [(.int x1)])) rfl (hb hby at_16)) ?_
  show Go _ _ _ _ (T1.setTop (mkF m 18 #[.val (.int x0), .val (.int x1), .val (.int mo), .val (.int (own_max mo)), .unset, .unset] [(.int (2147483647 : Int32)), (.int x1)]))
  refine Go.step (fun _ k => XS.iand X1.here hx rfl (hb hby at_18) rfl k) ?_
  show Go _ _ _ _ (T1.setTop (mkF m 19 #[.val (.int x0), .val (.int x1), .val (.int mo), .val (.int (own_max mo)), .unset, .unset] [(.int (x1 &&& (2147483647 : Int32)))]))
  refine Go.step (fun _ k => XS.iloadN X1.here hx rfl (hb hby at_19) rfl k) ?_
  show Go _ _ _ _ (T1.setTop (mkF m 20 #[.val (.int x0), .val (.int x1), .val (.int mo), .val (.int (own_max mo)), .unset, .unset] [(.int (own_max mo)), (.int (x1 &&& (2147483647 : Int32)))]))
  refine Go.step (fun _ k => XS.irem X1.here hx rfl (hb hby at_20) rfl (own_maxz mo) k) ?_
  show Go _ _ _ _ (T1.setTop (mkF m 21 #[.val (.int x0), .val (.int x1), .val (.int mo), .val (.int (own_max mo)), .unset, .unset] [(.int ((x1 &&& (2147483647 : Int32)) - ((x1 &&& (2147483647 : Int32)) / (own_max mo)) * (own_max mo)))]))
  refine Go.step (fun _ k => XS.iconst X1.here hx rfl (hb hby at_21) k) ?_
  show Go _ _ _ _ (T1.setTop (mkF m 22 #[.val (.int x0), .val (.int x1), .val (.int mo), .val (.int (own_max mo)), .unset, .unset] [(.int (1 : Int32)), (.int ((x1 &&& (2147483647 : Int32)) - ((x1 &&& (2147483647 : Int32)) / (own_max mo)) * (own_max mo)))]))
  refine Go.step (fun _ k => XS.iadd X1.here hx rfl (hb hby at_22) rfl k) ?_
  show Go _ _ _ _ (T1.setTop (mkF m 23 #[.val (.int x0), .val (.int x1), .val (.int mo), .val (.int (own_max mo)), .unset, .unset] [(.int (((x1 &&& (2147483647 : Int32)) - ((x1 &&& (2147483647 : Int32)) / (own_max mo)) * (own_max mo)) + (1 : Int32)))]))
  refine Go.step (fun _ k => XS.istore X1.here hx rfl (hb hby at_23) rfl (l' := #[.val (.int x0), .val (.int x1), .val (.int mo), .val (.int (own_max mo)), .val (.int (((x1 &&& (2147483647 : Int32)) - ((x1 &&& (2147483647 : Int32)) / (own_max mo)) * (own_max mo)) + (1 : Int32))), .unset]) rfl k) ?_
  show Go _ _ _ _ (T1.setTop (mkF m 25 #[.val (.int x0), .val (.int x1), .val (.int mo), .val (.int (own_max mo)), .val (.int (((x1 &&& (2147483647 : Int32)) - ((x1 &&& (2147483647 : Int32)) / (own_max mo)) * (own_max mo)) + (1 : Int32))), .unset] []))
  obtain ⟨da, hda⟩ : ∃ z, z = (((x1 &&& (2147483647 : Int32)) - ((x1 &&& (2147483647 : Int32)) / (own_max mo)) * (own_max mo)) + (1 : Int32)) := ⟨_, rfl⟩
  rw [← hda]
  obtain ⟨d0, d1⟩ := own_day x1 mo
  rw [← hda] at d0 d1
  show Go _ _ _ _ (T1.setTop (mkF m 25 #[.val (.int x0), .val (.int x1), .val (.int mo), .val (.int (own_max mo)), .val (.int da), .unset] []))
  refine Go.step (fun _ k => XS.iloadN X1.here hx rfl (hb hby at_25) rfl k) ?_
  show Go _ _ _ _ (T1.setTop (mkF m 26 #[.val (.int x0), .val (.int x1), .val (.int mo), .val (.int (own_max mo)), .val (.int da), .unset] [(.int mo)]))
  refine Go.step (fun _ k => XS.iconst X1.here hx rfl (hb hby at_26) k) ?_
  show Go _ _ _ _ (T1.setTop (mkF m 27 #[.val (.int x0), .val (.int x1), .val (.int mo), .val (.int (own_max mo)), .val (.int da), .unset] [(.int (2 : Int32)), (.int mo)]))
  by_cases hc2 : mo = (2 : Int32)
  · refine Go.step (fun _ k => XS.icmpNo X1.here hx rfl (hb hby at_27) rfl (teq hc2).2 k) ?_
    show Go _ _ _ _ (T1.setTop (mkF m 30 #[.val (.int x0), .val (.int x1), .val (.int mo), .val (.int (own_max mo)), .val (.int da), .unset] []))
    refine Go.step (fun _ k => XS.iload X1.here hx rfl (hb hby at_30) rfl k) ?_
    show Go _ _ _ _ (T1.setTop (mkF m 32 #[.val (.int x0), .val (.int x1), .val (.int mo), .val (.int (own_max mo)), .val (.int da), .unset] [(.int da)]))
    refine Go.step (fun _ k => XS.bipush X1.here hx rfl (hb hby at_32) k) ?_
    show Go _ _ _ _ (T1.setTop (mkF m 34 #[.val (.int x0), .val (.int x1), .val (.int mo), .val (.int (own_max mo)), .val (.int da), .unset] [(.int (29 : Int32)), (.int da)]))
    by_cases hc3 : da = (29 : Int32)
    · refine Go.step (fun _ k => XS.icmpYes X1.here hx rfl (pc0 := 34) (pc' := 41) rfl (hb hby at_34) rfl (teq hc3).1 (by decide) (by decide) k) ?_
      show Go _ _ _ _ (T1.setTop (mkF m 41 #[.val (.int x0), .val (.int x1), .val (.int mo), .val (.int (own_max mo)), .val (.int da), .unset] []))
      refine Go.step (fun _ k => XS.iconst X1.here hx rfl (hb hby at_41) k) ?_
      show Go _ _ _ _ (T1.setTop (mkF m 42 #[.val (.int x0), .val (.int x1), .val (.int mo), .val (.int (own_max mo)), .val (.int da), .unset] [(.int (0 : Int32))]))
      refine Go.step (fun _ k => XS.istore X1.here hx rfl (hb hby at_42) rfl (l' := #[.val (.int x0), .val (.int x1), .val (.int mo), .val (.int (own_max mo)), .val (.int da), .val (.int (0 : Int32))]) rfl k) ?_
      show Go _ _ _ _ (T1.setTop (mkF m 44 #[.val (.int x0), .val (.int x1), .val (.int mo), .val (.int (own_max mo)), .val (.int da), .val (.int (0 : Int32))] []))
      refine Go.step (fun _ k => XS.iloadN X1.here hx rfl (hb hby at_44) rfl k) ?_
      show Go _ _ _ _ (T1.setTop (mkF m 45 #[.val (.int x0), .val (.int x1), .val (.int mo), .val (.int (own_max mo)), .val (.int da), .val (.int (0 : Int32))] [(.int mo)]))
      refine Go.step (fun _ k => XS.iload X1.here hx rfl (hb hby at_45) rfl k) ?_
      show Go _ _ _ _ (T1.setTop (mkF m 47 #[.val (.int x0), .val (.int x1), .val (.int mo), .val (.int (own_max mo)), .val (.int da), .val (.int (0 : Int32))] [(.int da), (.int mo)]))
      refine goS X1 hx hZ hown (hw _ (List.mem_of_getElem? (i := 5) rfl)) (hw _ (List.mem_of_getElem? (i := 6) rfl)) (hw _ (List.mem_of_getElem? (i := 7) rfl)) (hw _ (List.mem_of_getElem? (i := 8) rfl)) (by decide) (rm2 l Z a0 hw [] mo da h0) e1 (by rw [hml]; rfl) [(.int mo), (.int da)] [] rfl pd2 rfl rfl 0 rfl (hb hby at_47) (by decide) (by decide) (by decide) (by decide) fun T4 L4 v4 q4 X4 => ?_
      obtain ⟨rfl, e4, rfl⟩ := q4
      rw [List.append_nil] at X4
      show Go _ _ _ _ (T4.setTop (mkF m 50 #[.val (.int x0), .val (.int x1), .val (.int mo), .val (.int (own_max mo)), .val (.int da), .val (.int (0 : Int32))] [(.int (mo * (32 : Int32) + da))]))
      refine goS X4 hx hZ hown (hw _ (List.mem_of_getElem? (i := 9) rfl)) (hw _ (List.mem_of_getElem? (i := 10) rfl)) (hw _ (List.mem_of_getElem? (i := 7) rfl)) (hw _ (List.mem_of_getElem? (i := 11) rfl)) (by decide) (rm3 l Z a0 hw [] (mo * (32 : Int32) + da) h0 S0) e4 (by rw [hml]; rfl) [(.int (mo * (32 : Int32) + da))] [] rfl pd3 rfl rfl 0 rfl (hb hby at_50) (by decide) (by decide) (by decide) (by decide) fun T5 L5 v5 q5 X5 => ?_
      obtain ⟨rfl, e5, rfl⟩ := q5
      rw [List.append_nil] at X5
      show Go _ _ _ _ (T5.setTop (mkF m 53 #[.val (.int x0), .val (.int x1), .val (.int mo), .val (.int (own_max mo)), .val (.int da), .val (.int (0 : Int32))] [(.int (own_ev (mo * (32 : Int32) + da)))]))
      refine Go.step (fun _ k => XS.iload X5.here hx rfl (hb hby at_53) rfl k) ?_
      show Go _ _ _ _ (T5.setTop (mkF m 55 #[.val (.int x0), .val (.int x1), .val (.int mo), .val (.int (own_max mo)), .val (.int da), .val (.int (0 : Int32))] [(.int (0 : Int32)), (.int (own_ev (mo * (32 : Int32) + da)))]))
      refine Go.step (fun _ k => XS.icmpNo X5.here hx rfl (hb hby at_55) rfl (teq (if_pos ((own_num mo da m0 m1 d0 d1).mpr ⟨hc2, hc3⟩))).2 k) ?_
      show Go _ _ _ _ (T5.setTop (mkF m 58 #[.val (.int x0), .val (.int x1), .val (.int mo), .val (.int (own_max mo)), .val (.int da), .val (.int (0 : Int32))] []))
      refine Go.step (fun _ k => XS.iconst X5.here hx rfl (hb hby at_58) k) ?_
      show Go _ _ _ _ (T5.setTop (mkF m 59 #[.val (.int x0), .val (.int x1), .val (.int mo), .val (.int (own_max mo)), .val (.int da), .val (.int (0 : Int32))] [(.int (1 : Int32))]))
      refine Go.step (fun _ k => XS.goto X5.here hx rfl (pc0 := 59) (pc' := 63) rfl (hb hby at_59) (by decide) (by decide) k) ?_
      show Go _ _ _ _ (T5.setTop (mkF m 63 #[.val (.int x0), .val (.int x1), .val (.int mo), .val (.int (own_max mo)), .val (.int da), .val (.int (0 : Int32))] [(.int (1 : Int32))]))
      exact leafN X5 hx (t := .boolean) hret (by simp) hlk (w := (1 : Int32)) rfl (hb hby at_63) ⟨rfl, Fr.nil _⟩ (by decide) (by decide)
    · refine Go.step (fun _ k => XS.icmpNo X1.here hx rfl (hb hby at_34) rfl (feq hc3).1 k) ?_
      show Go _ _ _ _ (T1.setTop (mkF m 37 #[.val (.int x0), .val (.int x1), .val (.int mo), .val (.int (own_max mo)), .val (.int da), .unset] []))
      refine Go.step (fun _ k => XS.iconst X1.here hx rfl (hb hby at_37) k) ?_
      show Go _ _ _ _ (T1.setTop (mkF m 38 #[.val (.int x0), .val (.int x1), .val (.int mo), .val (.int (own_max mo)), .val (.int da), .unset] [(.int (1 : Int32))]))
      refine Go.step (fun _ k => XS.goto X1.here hx rfl (pc0 := 38) (pc' := 42) rfl (hb hby at_38) (by decide) (by decide) k) ?_
      show Go _ _ _ _ (T1.setTop (mkF m 42 #[.val (.int x0), .val (.int x1), .val (.int mo), .val (.int (own_max mo)), .val (.int da), .unset] [(.int (1 : Int32))]))
      refine Go.step (fun _ k => XS.istore X1.here hx rfl (hb hby at_42) rfl (l' := #[.val (.int x0), .val (.int x1), .val (.int mo), .val (.int (own_max mo)), .val (.int da), .val (.int (1 : Int32))]) rfl k) ?_
      show Go _ _ _ _ (T1.setTop (mkF m 44 #[.val (.int x0), .val (.int x1), .val (.int mo), .val (.int (own_max mo)), .val (.int da), .val (.int (1 : Int32))] []))
      refine Go.step (fun _ k => XS.iloadN X1.here hx rfl (hb hby at_44) rfl k) ?_
      show Go _ _ _ _ (T1.setTop (mkF m 45 #[.val (.int x0), .val (.int x1), .val (.int mo), .val (.int (own_max mo)), .val (.int da), .val (.int (1 : Int32))] [(.int mo)]))
      refine Go.step (fun _ k => XS.iload X1.here hx rfl (hb hby at_45) rfl k) ?_
      show Go _ _ _ _ (T1.setTop (mkF m 47 #[.val (.int x0), .val (.int x1), .val (.int mo), .val (.int (own_max mo)), .val (.int da), .val (.int (1 : Int32))] [(.int da), (.int mo)]))
      refine goS X1 hx hZ hown (hw _ (List.mem_of_getElem? (i := 5) rfl)) (hw _ (List.mem_of_getElem? (i := 6) rfl)) (hw _ (List.mem_of_getElem? (i := 7) rfl)) (hw _ (List.mem_of_getElem? (i := 8) rfl)) (by decide) (rm2 l Z a0 hw [] mo da h0) e1 (by rw [hml]; rfl) [(.int mo), (.int da)] [] rfl pd2 rfl rfl 0 rfl (hb hby at_47) (by decide) (by decide) (by decide) (by decide) fun T6 L6 v6 q6 X6 => ?_
      obtain ⟨rfl, e6, rfl⟩ := q6
      rw [List.append_nil] at X6
      show Go _ _ _ _ (T6.setTop (mkF m 50 #[.val (.int x0), .val (.int x1), .val (.int mo), .val (.int (own_max mo)), .val (.int da), .val (.int (1 : Int32))] [(.int (mo * (32 : Int32) + da))]))
      refine goS X6 hx hZ hown (hw _ (List.mem_of_getElem? (i := 9) rfl)) (hw _ (List.mem_of_getElem? (i := 10) rfl)) (hw _ (List.mem_of_getElem? (i := 7) rfl)) (hw _ (List.mem_of_getElem? (i := 11) rfl)) (by decide) (rm3 l Z a0 hw [] (mo * (32 : Int32) + da) h0 S0) e6 (by rw [hml]; rfl) [(.int (mo * (32 : Int32) + da))] [] rfl pd3 rfl rfl 0 rfl (hb hby at_50) (by decide) (by decide) (by decide) (by decide) fun T7 L7 v7 q7 X7 => ?_
      obtain ⟨rfl, e7, rfl⟩ := q7
      rw [List.append_nil] at X7
      show Go _ _ _ _ (T7.setTop (mkF m 53 #[.val (.int x0), .val (.int x1), .val (.int mo), .val (.int (own_max mo)), .val (.int da), .val (.int (1 : Int32))] [(.int (own_ev (mo * (32 : Int32) + da)))]))
      refine Go.step (fun _ k => XS.iload X7.here hx rfl (hb hby at_53) rfl k) ?_
      show Go _ _ _ _ (T7.setTop (mkF m 55 #[.val (.int x0), .val (.int x1), .val (.int mo), .val (.int (own_max mo)), .val (.int da), .val (.int (1 : Int32))] [(.int (1 : Int32)), (.int (own_ev (mo * (32 : Int32) + da)))]))
      refine Go.step (fun _ k => XS.icmpNo X7.here hx rfl (hb hby at_55) rfl (teq (if_neg fun q => hc3 ((own_num mo da m0 m1 d0 d1).mp q).2)).2 k) ?_
      show Go _ _ _ _ (T7.setTop (mkF m 58 #[.val (.int x0), .val (.int x1), .val (.int mo), .val (.int (own_max mo)), .val (.int da), .val (.int (1 : Int32))] []))
      refine Go.step (fun _ k => XS.iconst X7.here hx rfl (hb hby at_58) k) ?_
      show Go _ _ _ _ (T7.setTop (mkF m 59 #[.val (.int x0), .val (.int x1), .val (.int mo), .val (.int (own_max mo)), .val (.int da), .val (.int (1 : Int32))] [(.int (1 : Int32))]))
      refine Go.step (fun _ k => XS.goto X7.here hx rfl (pc0 := 59) (pc' := 63) rfl (hb hby at_59) (by decide) (by decide) k) ?_
      show Go _ _ _ _ (T7.setTop (mkF m 63 #[.val (.int x0), .val (.int x1), .val (.int mo), .val (.int (own_max mo)), .val (.int da), .val (.int (1 : Int32))] [(.int (1 : Int32))]))
      exact leafN X7 hx (t := .boolean) hret (by simp) hlk (w := (1 : Int32)) rfl (hb hby at_63) ⟨rfl, Fr.nil _⟩ (by decide) (by decide)
  · refine Go.step (fun _ k => XS.icmpYes X1.here hx rfl (pc0 := 27) (pc' := 37) rfl (hb hby at_27) rfl (feq hc2).2 (by decide) (by decide) k) ?_
    show Go _ _ _ _ (T1.setTop (mkF m 37 #[.val (.int x0), .val (.int x1), .val (.int mo), .val (.int (own_max mo)), .val (.int da), .unset] []))
    refine Go.step (fun _ k => XS.iconst X1.here hx rfl (hb hby at_37) k) ?_
    show Go _ _ _ _ (T1.setTop (mkF m 38 #[.val (.int x0), .val (.int x1), .val (.int mo), .val (.int (own_max mo)), .val (.int da), .unset] [(.int (1 : Int32))]))
    refine Go.step (fun _ k => XS.goto X1.here hx rfl (pc0 := 38) (pc' := 42) rfl (hb hby at_38) (by decide) (by decide) k) ?_
    show Go _ _ _ _ (T1.setTop (mkF m 42 #[.val (.int x0), .val (.int x1), .val (.int mo), .val (.int (own_max mo)), .val (.int da), .unset] [(.int (1 : Int32))]))
    refine Go.step (fun _ k => XS.istore X1.here hx rfl (hb hby at_42) rfl (l' := #[.val (.int x0), .val (.int x1), .val (.int mo), .val (.int (own_max mo)), .val (.int da), .val (.int (1 : Int32))]) rfl k) ?_
    show Go _ _ _ _ (T1.setTop (mkF m 44 #[.val (.int x0), .val (.int x1), .val (.int mo), .val (.int (own_max mo)), .val (.int da), .val (.int (1 : Int32))] []))
    refine Go.step (fun _ k => XS.iloadN X1.here hx rfl (hb hby at_44) rfl k) ?_
    show Go _ _ _ _ (T1.setTop (mkF m 45 #[.val (.int x0), .val (.int x1), .val (.int mo), .val (.int (own_max mo)), .val (.int da), .val (.int (1 : Int32))] [(.int mo)]))
    refine Go.step (fun _ k => XS.iload X1.here hx rfl (hb hby at_45) rfl k) ?_
    show Go _ _ _ _ (T1.setTop (mkF m 47 #[.val (.int x0), .val (.int x1), .val (.int mo), .val (.int (own_max mo)), .val (.int da), .val (.int (1 : Int32))] [(.int da), (.int mo)]))
    refine goS X1 hx hZ hown (hw _ (List.mem_of_getElem? (i := 5) rfl)) (hw _ (List.mem_of_getElem? (i := 6) rfl)) (hw _ (List.mem_of_getElem? (i := 7) rfl)) (hw _ (List.mem_of_getElem? (i := 8) rfl)) (by decide) (rm2 l Z a0 hw [] mo da h0) e1 (by rw [hml]; rfl) [(.int mo), (.int da)] [] rfl pd2 rfl rfl 0 rfl (hb hby at_47) (by decide) (by decide) (by decide) (by decide) fun T8 L8 v8 q8 X8 => ?_
    obtain ⟨rfl, e8, rfl⟩ := q8
    rw [List.append_nil] at X8
    show Go _ _ _ _ (T8.setTop (mkF m 50 #[.val (.int x0), .val (.int x1), .val (.int mo), .val (.int (own_max mo)), .val (.int da), .val (.int (1 : Int32))] [(.int (mo * (32 : Int32) + da))]))
    refine goS X8 hx hZ hown (hw _ (List.mem_of_getElem? (i := 9) rfl)) (hw _ (List.mem_of_getElem? (i := 10) rfl)) (hw _ (List.mem_of_getElem? (i := 7) rfl)) (hw _ (List.mem_of_getElem? (i := 11) rfl)) (by decide) (rm3 l Z a0 hw [] (mo * (32 : Int32) + da) h0 S0) e8 (by rw [hml]; rfl) [(.int (mo * (32 : Int32) + da))] [] rfl pd3 rfl rfl 0 rfl (hb hby at_50) (by decide) (by decide) (by decide) (by decide) fun T9 L9 v9 q9 X9 => ?_
    obtain ⟨rfl, e9, rfl⟩ := q9
    rw [List.append_nil] at X9
    show Go _ _ _ _ (T9.setTop (mkF m 53 #[.val (.int x0), .val (.int x1), .val (.int mo), .val (.int (own_max mo)), .val (.int da), .val (.int (1 : Int32))] [(.int (own_ev (mo * (32 : Int32) + da)))]))
    refine Go.step (fun _ k => XS.iload X9.here hx rfl (hb hby at_53) rfl k) ?_
    show Go _ _ _ _ (T9.setTop (mkF m 55 #[.val (.int x0), .val (.int x1), .val (.int mo), .val (.int (own_max mo)), .val (.int da), .val (.int (1 : Int32))] [(.int (1 : Int32)), (.int (own_ev (mo * (32 : Int32) + da)))]))
    refine Go.step (fun _ k => XS.icmpNo X9.here hx rfl (hb hby at_55) rfl (teq (if_neg fun q => hc2 ((own_num mo da m0 m1 d0 d1).mp q).1)).2 k) ?_
    show Go _ _ _ _ (T9.setTop (mkF m 58 #[.val (.int x0), .val (.int x1), .val (.int mo), .val (.int (own_max mo)), .val (.int da), .val (.int (1 : Int32))] []))
    refine Go.step (fun _ k => XS.iconst X9.here hx rfl (hb hby at_58) k) ?_
    show Go _ _ _ _ (T9.setTop (mkF m 59 #[.val (.int x0), .val (.int x1), .val (.int mo), .val (.int (own_max mo)), .val (.int da), .val (.int (1 : Int32))] [(.int (1 : Int32))]))
    refine Go.step (fun _ k => XS.goto X9.here hx rfl (pc0 := 59) (pc' := 63) rfl (hb hby at_59) (by decide) (by decide) k) ?_
    show Go _ _ _ _ (T9.setTop (mkF m 63 #[.val (.int x0), .val (.int x1), .val (.int mo), .val (.int (own_max mo)), .val (.int da), .val (.int (1 : Int32))] [(.int (1 : Int32))]))
    exact leafN X9 hx (t := .boolean) hret (by simp) hlk (w := (1 : Int32)) rfl (hb hby at_63) ⟨rfl, Fr.nil _⟩ (by decide) (by decide)
set_option maxRecDepth 65536 in
set_option maxHeartbeats 40000000 in
theorem comes_1 {Post : Tables → Env → Array Value → State → Outcome → State → Prop} (hpost : ∀ tb e args s v u, (limb_1_1.after args s (.returned v) u = true ∧ limb_1_2.after args s (.returned v) u = true ∧ True) → FrameEnd s (.returned v) u (Jvm.fieldLocs frame_1_writes args s ++ Jvm.arrayLocs frame_1_arrays args s ++ Jvm.staticLocs frame_1_statics s) 0 0 → Post tb e args s (.returned v) u) :
    ArmFor flags0 classFile x code maxLocals ret World_1 tables_1 room_1 Calls_1 rest_1 Pre_1 Post := by
  intro l hfl _ _ p e ha hc hk s m args below hf hA hF happ hP
  obtain ⟨hcalls, hrest, hpre⟩ := hP
  obtain ⟨-, -, -, hnamed, -, -, -, hat⟩ := (Spec.applies_iff hf).mp happ
  obtain ⟨hg, hn⟩ := and_e (Cond.before_iff.mp (show (Jvm.Cond.and given_1 narrow_1).before args s = true from hpre))
  obtain ⟨hcount, hg0⟩ := and_e hg
  obtain ⟨ha0, hg1⟩ := and_e hg0
  have ha1 := hg1
  obtain ⟨w0, w1, rfl⟩ : ∃ w0 w1 : Value, args = #[w0, w1] := by
    have hs : args.size = 2 := by simpa [Cond.value, given_1] using hcount
    obtain ⟨L⟩ := args
    match L, hs with
    | [w0, w1], _ => exact ⟨w0, w1, rfl⟩
  have hw := fun d (hd : d ∈ tables_1) => atoms_spec (ws := Jvm.Cond.code x code maxLocals ret :: tables_1) hat d (List.mem_cons_of_mem _ hd)
  obtain ⟨i0, ei0⟩ := is_v ha0
  obtain rfl : w0 = (.int i0) := Option.some.inj ei0
  obtain ⟨i1, ei1⟩ := is_v ha1
  obtain rfl : w1 = (.int i1) := Option.some.inj ei1
  have S0 : Sta s s.heap "com/example/pledgebook/pledgebook/MonthDays" "FEBRUARY_29" "I" (.int (93 : Int32)) := Sta.start (args := #[.int i0, .int i1]) (Jvm.Free.NT.SwA.eq_int (Cond.before_iff.mpr hn)) (Or.inr ⟨(hw _ (List.mem_of_getElem? (i := 7) rfl)), (hw _ (List.mem_of_getElem? (i := 13) rfl))⟩)
  obtain ⟨n, o, h1, h2, h3, _, L, rfl, ⟨rfl, N⟩, hq⟩ := rm0 l s _ hw tables_1 i0 i1 s.heap S0 p e ha hc hk s m _ below hf ((Spec.applies_iff_loose hf).mp happ).1 ⟨rfl, State.Warmed39.refl s, rfl⟩ trivial
  refine ⟨n, _, h1, h2, h3, hpost _ _ _ _ _ _ ⟨Cond.after_iff.mpr rfl, Cond.after_iff.mpr (eq_i res_at (Term.int_eval (1)) rfl), trivial⟩ ⟨hq.1, hq.2.1, (hq.2.2.sift fun y hy => Or.inr (N y hy)).mono (by decide) (by decide)⟩⟩
theorem main_1_1 : Claimed_1_1 := comes_1 fun _ _ _ _ _ _ h hF => ⟨h.1, hF⟩
theorem main_1_2 : Claimed_1_2 := comes_1 fun _ _ _ _ _ _ h hF => ⟨h.2.1, hF⟩
end Jvm.Pilot.@@N@@
namespace Jvm.Pilot.@@N@@
open Jvm Jvm.ClassFile Sem Op Lib Jvm.Free Jvm.Stand Jvm.Pilot.@@N@@.Jvm.D
/-! MADE BY PROGRAM (witnessworld.py) out of the Statement's table words and the real class files: 9 classes; the members and pool entries that the words name. The judged class is class 1, her method 1. -/
namespace start1
open Jvm.ClassFile
def u (s : String) : CpInfo := .utf8 (stringToUtf16 s)
/-- a pool by its gaps: so many unusable entries, then the entry; so many at the end -/
def gap : Nat → List CpInfo → List CpInfo
  | 0, r => r
  | n + 1, r => .unusable :: gap n r
def poolList (es : List (Nat × CpInfo)) (last : Nat) : List CpInfo := es.foldr (fun e r => gap e.1 (e.2 :: r)) (gap last [])
def pool (es : List (Nat × CpInfo)) (last : Nat) : Array CpInfo := ⟨poolList es last⟩
def fileOf (pool : Array CpInfo) (this : Nat) (attrs : Array Attribute := #[]) (ms : Array MethodInfo := #[]) (fl : Nat := 33) (sup : Nat := 0) (ifs : Array Nat := #[]) (fds : Array FieldInfo := #[]) : ClassFile where
  minorVersion := 0
  majorVersion := 65
  constantPool := pool
  accessFlags := fl
  thisClass := this
  superClass := sup
  interfaces := ifs
  fields := fds
  methods := ms
  attributes := attrs
def plain (name : String) (sup : Option ClassId) : Class where
  name := name
  kind := .ordinary
  loader := none
  accessFlags := 33
  super := sup
  interfaces := #[]
  cf := none
  fields := #[]
  methods := #[]
  instanceTypes := #[]
  staticTypes := #[]
  resolved := #[]
  callSites := []
  init := .initialized
  statics := none
  mirror := none

def pool0 : Array CpInfo := pool [(5, u "<init>"), (0, u "()V"), (1, .class_ 10), (1, u "java/lang/Object")] 113

def k0m0 : Method := { name := "<init>", desc := "()V", sig := { parameters := [], returnType := none }, accessFlags := 1, code := none }
/-- java/lang/Object -/
def k0 : Class := { plain "java/lang/Object" none with
  accessFlags := 33
  interfaces := #[]
  cf := some (fileOf pool0 8 #[] #[{ accessFlags := 1, nameIndex := 5, descriptorIndex := 6, attributes := #[] }] 33 0 #[] #[])
  fields := #[]
  methods := #[k0m0]
  instanceTypes := #[]
  staticTypes := #[]
  resolved := Array.replicate 124 none
  statics := none }

def pool1 : Array CpInfo := pool [(2, .class_ 4), (1, u "java/lang/Object"), (0, u "<init>"), (0, u "()V"), (0, .integer 2147483647), (0, .methodref 9 10), (0, .class_ 11), (0, .nameAndType 12 13), (0, u "com/example/pledgebook/pledgebook/MonthDaysInEveryYearPinLaw"), (0, u "maxLength"), (0, u "(I)I"), (0, .methodref 15 16), (0, .class_ 17), (0, .nameAndType 18 19), (0, u "com/example/pledgebook/pledgebook/MonthDays"), (0, u "number"), (0, u "(II)I"), (0, .methodref 15 21), (0, .nameAndType 22 23), (0, u "inEveryYear"), (0, u "(I)Z"), (2, u "law"), (0, u "(II)Z")] 3

def k1m0 : Method := { name := "<init>", desc := "()V", sig := { parameters := [], returnType := none }, accessFlags := 2, code := none }
def k1c1 : Code := { maxStack := 2, maxLocals := 6, code := code, exceptionTable := #[], attributes := #[] }
def k1m1 : Method := { name := "law", desc := "(II)Z", sig := { parameters := [.int, .int], returnType := some .boolean }, accessFlags := 9, code := some k1c1 }
def k1c2 : Code := { maxStack := 2, maxLocals := 1, code := method_3_code, exceptionTable := #[], attributes := #[] }
def k1m2 : Method := { name := "maxLength", desc := "(I)I", sig := { parameters := [.int], returnType := some .int }, accessFlags := 10, code := some k1c2 }
/-- com/example/pledgebook/pledgebook/MonthDaysInEveryYearPinLaw -/
def k1 : Class := { plain "com/example/pledgebook/pledgebook/MonthDaysInEveryYearPinLaw" (some 0) with
  accessFlags := 49
  interfaces := #[]
  cf := some (fileOf pool1 9 #[] #[{ accessFlags := 2, nameIndex := 5, descriptorIndex := 6, attributes := #[] }, { accessFlags := 9, nameIndex := 26, descriptorIndex := 27, attributes := #[] }, { accessFlags := 10, nameIndex := 12, descriptorIndex := 13, attributes := #[] }] 49 2 #[] #[])
  fields := #[]
  methods := #[k1m0, k1m1, k1m2]
  instanceTypes := #[]
  staticTypes := #[]
  resolved := Array.replicate 31 none
  statics := none }

def pool2 : Array CpInfo := pool [(2, .class_ 4), (1, u "java/lang/Object"), (0, u "<init>"), (0, u "()V"), (1, .class_ 10), (1, u "com/example/pledgebook/pledgebook/MonthDays"), (38, u "number"), (0, u "(II)I"), (25, .fieldref 8 77), (0, .nameAndType 78 79), (0, u "FEBRUARY_29"), (0, u "I"), (6, u "inEveryYear"), (0, u "(I)Z")] 3

def k2m0 : Method := { name := "<init>", desc := "()V", sig := { parameters := [], returnType := none }, accessFlags := 2, code := none }
def k2c1 : Code := { maxStack := 2, maxLocals := 2, code := prog_23_method_4_code, exceptionTable := #[], attributes := #[] }
def k2m1 : Method := { name := "number", desc := "(II)I", sig := { parameters := [.int, .int], returnType := some .int }, accessFlags := 8, code := some k2c1 }
def k2c2 : Code := { maxStack := 2, maxLocals := 1, code := prog_23_method_11_code, exceptionTable := #[], attributes := #[] }
def k2m2 : Method := { name := "inEveryYear", desc := "(I)Z", sig := { parameters := [.int], returnType := some .boolean }, accessFlags := 8, code := some k2c2 }
/-- com/example/pledgebook/pledgebook/MonthDays -/
def k2 : Class := { plain "com/example/pledgebook/pledgebook/MonthDays" (some 0) with
  accessFlags := 33
  interfaces := #[]
  cf := some (fileOf pool2 8 #[] #[{ accessFlags := 2, nameIndex := 5, descriptorIndex := 6, attributes := #[] }, { accessFlags := 8, nameIndex := 49, descriptorIndex := 50, attributes := #[] }, { accessFlags := 8, nameIndex := 86, descriptorIndex := 87, attributes := #[] }] 33 2 #[] #[{ accessFlags := 26, nameIndex := 78, descriptorIndex := 79, attributes := #[] }])
  fields := #[{ name := "FEBRUARY_29", type := .int, accessFlags := 26, slot := 0, constantValue := 0 }]
  methods := #[k2m0, k2m1, k2m2]
  instanceTypes := #[]
  staticTypes := #[.int]
  resolved := Array.replicate 91 none
  statics := some 0 }

def pool3 : Array CpInfo := pool [(1, u "java/lang/Cloneable"), (0, .class_ 1), (0, u "java/lang/Object"), (0, .class_ 3)] 3

/-- java/lang/Cloneable -/
def k3 : Class := { plain "java/lang/Cloneable" (some 0) with
  accessFlags := 1537
  interfaces := #[]
  cf := some (fileOf pool3 2 #[] #[] 1537 4 #[] #[])
  fields := #[]
  methods := #[]
  instanceTypes := #[]
  staticTypes := #[]
  resolved := Array.replicate 8 none
  statics := none }

def pool4 : Array CpInfo := pool [(1, u "java/io/Serializable"), (0, .class_ 1), (0, u "java/lang/Object"), (0, .class_ 3)] 3

/-- java/io/Serializable -/
def k4 : Class := { plain "java/io/Serializable" (some 0) with
  accessFlags := 1537
  interfaces := #[]
  cf := some (fileOf pool4 2 #[] #[] 1537 4 #[] #[])
  fields := #[]
  methods := #[]
  instanceTypes := #[]
  staticTypes := #[]
  resolved := Array.replicate 8 none
  statics := none }

/-- the primitive byte -/
def k5 : Class := { plain "byte" none with kind := .primitive 'B', accessFlags := 0x411 }
/-- [B -/
def k6 : Class := { plain "[B" (some 0) with kind := .array 5 .byte, interfaces := #[3, 4], accessFlags := 1041 }

/-- the primitive int -/
def k7 : Class := { plain "int" none with kind := .primitive 'I', accessFlags := 0x411 }
/-- [I -/
def k8 : Class := { plain "[I" (some 0) with kind := .array 7 .int, interfaces := #[3, 4], accessFlags := 1041 }

def heap : Heap := #[{ cls := 2, slots := #[.int 93], vm := .statics 2 }]
def classes : Array Class := #[k0, k1, k2, k3, k4, k5, k6, k7, k8]
def interned : List (Array UInt16 × Addr) := []
def slotsUsed : Nat := 1
def theMethod : MethodId := ⟨1, 1⟩
def args0 : Array Value := #[.int 5, .int 6]
def aboutOver (below : List Frame) : State where
  vm := { classes := classes, interned := interned.toArray }
  heap := heap
  slotsUsed := slotsUsed
  threads := #[{ frames := .invoking theMethod args0 :: below }]
def below0 : List Frame := [.native { method := ⟨0, 0⟩, args := #[] }]
def about1 : State := aboutOver below0
def p0 : Program := .bare "" "" ""
def e0 : Env := launch0.env 0 0 0
theorem w_frames : about1.frames = Frame.invoking theMethod args0 :: below0 := rfl
set_option maxRecDepth 65536 in
theorem w_args : argsFit about1.vm theMethod args0 = true := by decide +kernel
set_option maxRecDepth 65536 in
theorem w_heap : heapFits about1 = true := by decide +kernel
set_option maxRecDepth 65536 in
theorem w_runnable : about1.curStatus? = some .runnable := by decide +kernel
set_option maxRecDepth 65536 in
theorem w_alone : about1.alone = true := by decide +kernel
set_option maxRecDepth 65536 in
theorem w_named : about1.methodNamed? x = some theMethod := by decide +kernel
set_option maxRecDepth 65536 in
theorem w_hears : about1.hears theMethod below0 = true := by decide +kernel
set_option maxRecDepth 65536 in
theorem w_ripe : about1.ripe theMethod args0 below0 = true := by decide +kernel
theorem w_running : about1.status = .running := rfl
set_option maxRecDepth 65536 in
theorem w_room : about1.hasRoom e0.platform room_1 = true :=
  launch0.hasRoom_least _ room_1 (by decide +kernel) (by decide +kernel) (by decide +kernel) (by decide +kernel) (by decide +kernel) (by decide +kernel)
theorem allAtoms_all (ts : List Jvm.Cond) (a : Array Jvm.Value) (st : Jvm.State) : (allAtoms ts).before a st = ts.all (fun c => c.before a st) := by
  induction ts with
  | nil => rfl
  | cons c t ih =>
    show (Jvm.Cond.and c (allAtoms t)).before a st = _
    rw [Jvm.Cond.before_and, ih, List.all_cons]
def words1 : List Jvm.Cond := Jvm.Cond.code x code maxLocals ret :: tables_1
/-- a 'code' word, met by the world's own term for the bytes: nothing is compared byte by byte -/
theorem code_word {y : MethodName} {bytes : ByteArray} {mx : Nat} {rt : Option FieldType} {a : Array Value} {s : State} {m : MethodId} {meth : Method} {c : Code} (h1 : s.methodNamed? y = some m) (h2 : s.vm.method? m = some meth) (h3 : meth.code = some c) (h4 : c.code = bytes)
    (h5 : (c.maxLocals == mx && c.exceptionTable.isEmpty && decide (c.maxStack ≤ mostOperands) && decide (meth.sig.returnType = rt) && !meth.locks && decide (parseMethodDescriptor y.desc = some meth.sig)) = true) : (Jvm.Cond.code y bytes mx rt).before a s = true := by
  simp only [Bool.and_eq_true, beq_iff_eq, Bool.not_eq_true', decide_eq_true_eq] at h5
  obtain ⟨⟨⟨⟨⟨g1, g2⟩, g3⟩, g4⟩, g5⟩, g6⟩ := h5
  simp [Cond.before, Cond.holds, Cond.value, h1, h2, h3, h4, g1, g2, g3, g4, g5, g6]
def isCode : Jvm.Cond → Bool
  | .code _ _ _ _ => true
  | _ => false
theorem all_split {L : List Jvm.Cond} {P : Jvm.Cond → Bool} (h1 : L.all (fun c => isCode c || P c) = true) (h2 : ∀ c ∈ L.filter isCode, P c = true) : L.all P = true := by
  refine List.all_eq_true.mpr fun c hc => ?_
  have h := List.all_eq_true.mp h1 c hc
  rcases Bool.eq_false_or_eq_true (isCode c) with hi | hi
  · exact h2 c (List.mem_filter.mpr ⟨hc, hi⟩)
  · simpa [hi] using h
set_option maxRecDepth 65536 in
theorem w_c0 : (Jvm.Cond.code x code maxLocals ret).before args0 about1 = true := code_word (m := ⟨1, 1⟩) (meth := k1m1) (c := k1c1) (by decide +kernel) rfl rfl rfl (by decide +kernel)
set_option maxRecDepth 65536 in
theorem w_c1 : (Jvm.Cond.code ({ cls := "com/example/pledgebook/pledgebook/MonthDaysInEveryYearPinLaw", name := "maxLength", desc := "(I)I" } : Jvm.MethodName) method_3_code (1 : Nat) (Option.some Jvm.ClassFile.FieldType.int)).before args0 about1 = true := code_word (m := ⟨1, 2⟩) (meth := k1m2) (c := k1c2) (by decide +kernel) rfl rfl rfl (by decide +kernel)
set_option maxRecDepth 65536 in
theorem w_c2 : (Jvm.Cond.code ({ cls := "com/example/pledgebook/pledgebook/MonthDays", name := "number", desc := "(II)I" } : Jvm.MethodName) prog_23_method_4_code (2 : Nat) (Option.some Jvm.ClassFile.FieldType.int)).before args0 about1 = true := code_word (m := ⟨2, 1⟩) (meth := k2m1) (c := k2c1) (by decide +kernel) rfl rfl rfl (by decide +kernel)
set_option maxRecDepth 65536 in
theorem w_c3 : (Jvm.Cond.code ({ cls := "com/example/pledgebook/pledgebook/MonthDays", name := "inEveryYear", desc := "(I)Z" } : Jvm.MethodName) prog_23_method_11_code (1 : Nat) (Option.some Jvm.ClassFile.FieldType.boolean)).before args0 about1 = true := code_word (m := ⟨2, 2⟩) (meth := k2m2) (c := k2c2) (by decide +kernel) rfl rfl rfl (by decide +kernel)
def codes1 : List Jvm.Cond := [Jvm.Cond.code x code maxLocals ret, Jvm.Cond.code ({ cls := "com/example/pledgebook/pledgebook/MonthDaysInEveryYearPinLaw", name := "maxLength", desc := "(I)I" } : Jvm.MethodName) method_3_code (1 : Nat) (Option.some Jvm.ClassFile.FieldType.int), Jvm.Cond.code ({ cls := "com/example/pledgebook/pledgebook/MonthDays", name := "number", desc := "(II)I" } : Jvm.MethodName) prog_23_method_4_code (2 : Nat) (Option.some Jvm.ClassFile.FieldType.int), Jvm.Cond.code ({ cls := "com/example/pledgebook/pledgebook/MonthDays", name := "inEveryYear", desc := "(I)Z" } : Jvm.MethodName) prog_23_method_11_code (1 : Nat) (Option.some Jvm.ClassFile.FieldType.boolean)]
set_option maxRecDepth 65536 in
theorem codes_eq : words1.filter isCode = codes1 := rfl
theorem w_codes : ∀ c ∈ words1.filter isCode, c.before args0 about1 = true := by
  rw [codes_eq]
  intro c hc
  simp only [codes1, List.mem_cons, List.not_mem_nil, or_false] at hc
  rcases hc with rfl | rfl | rfl | rfl
  · exact w_c0
  · exact w_c1
  · exact w_c2
  · exact w_c3
set_option maxRecDepth 65536 in
theorem w_t1 : words1.all (fun c => isCode c || c.before args0 about1) = true := by decide +kernel
theorem w_tables : (allAtoms (Jvm.Cond.code x code maxLocals ret :: tables_1)).before args0 about1 = true := by
  rw [allAtoms_all]
  show words1.all (fun c => c.before args0 about1) = true
  refine all_split ?_ w_codes
  rw [w_t1]
set_option maxRecDepth 65536 in
theorem w_case : (Jvm.Cond.and given_1 narrow_1).before args0 about1 = true := by decide +kernel
theorem w_applies : (headSpec (Jvm.Cond.code x code maxLocals ret :: tables_1) room_1).applies x e0.platform about1 = true :=
  (Spec.applies_iff w_frames).mpr ⟨w_running, w_runnable, w_alone, w_named, w_hears, w_ripe, w_room, w_tables⟩
theorem atStart : AtStart classFile x code maxLocals ret World_1 tables_1 room_1 Calls_1 rest_1 Pre_1 launch0 p0 e0 about1 theMethod args0 below0 :=
  ⟨lists_1, trivial, launch0.admits_env _ _ _, launch0.least_env, fairChoices_fair.cas, fairChoices_fair.clock, w_frames, w_args, w_heap, w_applies, trivial, trivial, w_case⟩
end start1
theorem witness_1 : WitnessClaimed_1 := ⟨start1.p0, start1.e0, start1.about1, start1.theMethod, start1.args0, start1.below0, start1.atStart⟩
end Jvm.Pilot.@@N@@
