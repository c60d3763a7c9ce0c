import JvmDerived
import JvmDerived.Pilot.@@N@@Statement
import JvmDerived.Pilot.@@N@@Code
set_option linter.unusedVariables false
set_option linter.unusedSimpArgs false
namespace Jvm.Pilot.@@N@@
open Jvm Jvm.ClassFile Sem Op Lib Jvm.Free Jvm.Stand Jvm.LawKit Jvm.RoadKit Bundle Jvm.Pilot.@@N@@.Jvm.D
/-! own_kit: a walk as 'what is left to do' (Go), contracts (Con), calls and returns in that form -/
/-- from F the run comes to an end of which P holds -/
def Go (tb : Tables) (e : Env) (below : List Frame) (P : Outcome → State → Prop) (F : State) : Prop :=
  ∃ s₂ o, Steps tb e below F s₂ ∧ s₂.status = .running ∧ Ended s₂ below o ∧ P o s₂
theorem Go.step {tb : Tables} {e : Env} {below : List Frame} {P : Outcome → State → Prop} {A B : State} (h : ∀ t, Steps tb e below B t → Steps tb e below A t) (k : Go tb e below P B) : Go tb e below P A := by
  obtain ⟨s₂, o, h1, h2, h3, h4⟩ := k
  exact ⟨s₂, o, h _ h1, h2, h3, h4⟩
theorem Go.via {tb : Tables} {e : Env} {below : List Frame} {P : Outcome → State → Prop} {A B : State} (h : Steps tb e below A B) (k : Go tb e below P B) : Go tb e below P A :=
  Go.step (fun t q => h.trans q) k
/-- how a walk ends: it returns v, Q holds of v, the heap and the places written; at most C cells and S slots were made -/
def EndsAs (s : State) (C S : Nat) (Q : Option Value → Heap → List Loc → Prop) (o : Outcome) (U : State) : Prop :=
  ∃ v L, o = .returned v ∧ Q v U.heap L ∧ FrameEnd s o U L C S
/-- the contract of a body at arguments 'as' and heap h0 -/
abbrev Con (l : Launch) (Z : State) (y : MethodName) (bytes : ByteArray) (mx : Nat) (ret : Option FieldType) (ws : List Jvm.Cond) (rm : Room) (as : Array Value) (h0 : Heap) (Q : Option Value → Heap → List Loc → Prop) : Prop :=
  MetFree l y (head1 (Jvm.Cond.code y bytes mx ret :: ws) rm) (fun a U => a = as ∧ Z.Warmed39 U.vm ∧ U.heap = h0) (fun _ _ _ _ _ => True) (fun _ U o U' => ∃ v L, o = .returned v ∧ Q v U'.heap L ∧ FrameEnd U o U' L rm.cells rm.slots)
theorem Con.of {l : Launch} {Z : State} {y : MethodName} {bytes : ByteArray} {mx : Nat} {ret : Option FieldType} {ws : List Jvm.Cond} {rm : Room} {as : Array Value} {h0 : Heap} {Q : Option Value → Heap → List Loc → Prop} (hpl : plainFor y = true)
    (body : ∀ (p : Program) (e : Env) (s : State) (m : MethodId) (below : List Frame) (meth : Method) (c : Code) (s₁ : State), Z.Warmed39 s.vm → p.tables.exec = Jvm.exec → c.code = bytes → c.maxLocals = mx → s.vm.findClass y.cls = some m.cls → meth.sig.returnType = ret → meth.locks = false → meth.name = y.name →
      Stand p l e rm s m as below meth c s₁ [] 0 0 → s₁.heap = h0 → Go p.tables e below (EndsAs s rm.cells rm.slots Q) (s₁.setTop (entryFrame m as mx))) :
    Con l Z y bytes mx ret ws rm as h0 Q := by
  refine MetFree.of_bodySF hpl hisR ?_
  intro p e s m args below meth c s₁ Bd hml0 hP hK
  obtain ⟨rfl, hZ, hh⟩ := hP
  exact body p e s m below meth c s₁ hZ Bd.exec Bd.bytes hml0 (findClass_of_methodNamed Bd.named) Bd.returns Bd.notSynchronized (name_of_methodNamed Bd.named Bd.method).1 (Stand.of_body Bd) (by rw [← hh, Bd.state]; rfl)
section Kit
variable {p : Program} {l : Launch} {e : Env} {R : Room} {s : State} {m : MethodId} {args : Array Value} {below : List Frame} {meth : Method} {c : Code} {T : State} {locs : List Loc} {cells slots : Nat} {Z : State} {a0 : Array Value} {h : Heap}
theorem leafO (X : Stand p l e R s m args below meth c T locs cells slots) (hx : p.tables.exec = Jvm.exec) {t : FieldType} (hret : meth.sig.returnType = some t) (hlk : meth.locks = false) {pc : Nat} {Ls : Array Slot} {w : Value} {i : Instr} {rest : List Value} (hn : narrow t w = w)
    (hi : (i = .ireturn ∧ (t = .int ∨ t = .boolean ∨ t = .byte ∨ t = .char ∨ t = .short) ∧ ∃ z, w = .int z) ∨ (i = .lreturn ∧ t = .long ∧ ∃ z, w = .long z) ∨ (i = .dreturn ∧ t = .double ∧ ∃ z, w = .double z) ∨ (i = .freturn ∧ t = .float ∧ ∃ z, w = .float z) ∨ (i = .areturn ∧ t.isReference = true ∧ w.isRef = true))
    (hd : decode c.code pc = .ok (i, 1)) {Q : Option Value → Heap → List Loc → Prop} {C S : Nat} (hQ : Q (some w) T.heap locs) (hC : cells ≤ C) (hS : slots ≤ S) :
    Go p.tables e below (EndsAs s C S Q) (T.setTop (mkF m pc Ls (w :: rest))) := by
  obtain ⟨fs, hr, hrun, hended, hW, hsame⟩ := X.leave (v := some w) (fun h => by rw [hret] at h; cases h) hlk
  exact ⟨_, _, retOut X hx hret hn hi hd hr, hrun, hended, _, _, rfl, hQ, ⟨_, rfl⟩, hW, hsame.mono hC hS⟩
theorem leafI (X : Stand p l e R s m args below meth c T locs cells slots) (hx : p.tables.exec = Jvm.exec) (hret : meth.sig.returnType = some .int) (hlk : meth.locks = false) {pc : Nat} {Ls : Array Slot} {z : Int32} {rest : List Value}
    (hd : decode c.code pc = .ok (.ireturn, 1)) {Q : Option Value → Heap → List Loc → Prop} {C S : Nat} (hQ : Q (some (.int z)) T.heap locs) (hC : cells ≤ C) (hS : slots ≤ S) :
    Go p.tables e below (EndsAs s C S Q) (T.setTop (mkF m pc Ls (.int z :: rest))) :=
  leafO X hx hret hlk rfl (Or.inl ⟨rfl, Or.inl rfl, _, rfl⟩) hd hQ hC hS
theorem leafJ (X : Stand p l e R s m args below meth c T locs cells slots) (hx : p.tables.exec = Jvm.exec) (hret : meth.sig.returnType = some .long) (hlk : meth.locks = false) {pc : Nat} {Ls : Array Slot} {z : Int64} {rest : List Value}
    (hd : decode c.code pc = .ok (.lreturn, 1)) {Q : Option Value → Heap → List Loc → Prop} {C S : Nat} (hQ : Q (some (.long z)) T.heap locs) (hC : cells ≤ C) (hS : slots ≤ S) :
    Go p.tables e below (EndsAs s C S Q) (T.setTop (mkF m pc Ls (.long z :: rest))) :=
  leafO X hx hret hlk rfl (Or.inr (Or.inl ⟨rfl, rfl, _, rfl⟩)) hd hQ hC hS
theorem leafA (X : Stand p l e R s m args below meth c T locs cells slots) (hx : p.tables.exec = Jvm.exec) {t : FieldType} (hret : meth.sig.returnType = some t) (ht : t.isReference = true) (hlk : meth.locks = false) {pc : Nat} {Ls : Array Slot} {w : Value} {rest : List Value} (hw : w.isRef = true) (hn : narrow t w = w)
    (hd : decode c.code pc = .ok (.areturn, 1)) {Q : Option Value → Heap → List Loc → Prop} {C S : Nat} (hQ : Q (some w) T.heap locs) (hC : cells ≤ C) (hS : slots ≤ S) :
    Go p.tables e below (EndsAs s C S Q) (T.setTop (mkF m pc Ls (w :: rest))) :=
  leafO X hx hret hlk hn (Or.inr (Or.inr (Or.inr (Or.inr ⟨rfl, ht, hw⟩)))) hd hQ hC hS
theorem leafN (X : Stand p l e R s m args below meth c T locs cells slots) (hx : p.tables.exec = Jvm.exec) {t : FieldType} (hret : meth.sig.returnType = some t) (ht : t = .boolean ∨ t = .byte ∨ t = .char ∨ t = .short) (hlk : meth.locks = false) {pc : Nat} {Ls : Array Slot} {z w : Int32} {rest : List Value} (hw : nar t z = w)
    (hd : decode c.code pc = .ok (.ireturn, 1)) {Q : Option Value → Heap → List Loc → Prop} {C S : Nat} (hQ : Q (some (.int w)) T.heap locs) (hC : cells ≤ C) (hS : slots ≤ S) :
    Go p.tables e below (EndsAs s C S Q) (T.setTop (mkF m pc Ls (.int z :: rest))) := by
  subst hw
  obtain ⟨fs, hr, hrun, hended, hW, hsame⟩ := X.leave (v := some (.int (nar t z))) (fun h => by rw [hret] at h; cases h) hlk
  exact ⟨_, _, retN X hx hret ht hd hr, hrun, hended, _, _, rfl, hQ, ⟨_, rfl⟩, hW, hsame.mono hC hS⟩
theorem leafV (X : Stand p l e R s m args below meth c T locs cells slots) (hx : p.tables.exec = Jvm.exec) (hret : meth.sig.returnType = none) (hlk : meth.locks = false) {pc : Nat} {Ls : Array Slot}
    (hd : decode c.code pc = .ok (.return_, 1)) {Q : Option Value → Heap → List Loc → Prop} {C S : Nat} (hQ : Q none T.heap locs) (hC : cells ≤ C) (hS : slots ≤ S) :
    Go p.tables e below (EndsAs s C S Q) (T.setTop (mkF m pc Ls [])) := by
  obtain ⟨fs, hr, hrun, hended, hW, hsame⟩ := X.leave (v := none) (fun _ => rfl) hlk
  exact ⟨_, _, X.returnOut hx hret hd hr, hrun, hended, _, _, rfl, hQ, ⟨_, rfl⟩, hW, hsame.mono hC hS⟩
theorem goS (X : Stand p l e R s m args below meth c T locs cells slots) (hx : p.tables.exec = Jvm.exec) (hZ : Z.Warmed39 s.vm) {own : String} {index : Nat} {y : MethodName} {bytes : ByteArray} {maxL : Nat} {ret : Option FieldType} (hown : s.vm.findClass own = some m.cls)
    (w1 : (Jvm.Cond.methodLink own index y).before a0 Z = true) (w2 : (Jvm.Cond.static y).before a0 Z = true) (w3 : (Jvm.Cond.initialized y.cls).before a0 Z = true) (w4 : (Jvm.Cond.code y bytes maxL ret).before a0 Z = true)
    (hy : y.cls ≠ "java/lang/invoke/MethodHandle" ∧ y.cls ≠ "java/lang/invoke/VarHandle") {rm : Room} {as : Array Value} {Qc : Option Value → Heap → List Loc → Prop} (hM : Con l Z y bytes maxL ret [] rm as h Qc) (eT : T.heap = h)
    {pc : Nat} {Ls : Array Slot} {st : List Value} (hsize : Ls.size = c.maxLocals) (argsL rest : List Value) (has : argsL.toArray = as) {ps : List FieldType} {r : Option FieldType} (hpd : parseMethodDescriptor y.desc = some ⟨ps, r⟩) (hlen : argsL.length = ps.length) (hst : st = argsL.reverse ++ rest)
    (W : Nat) (hW : (rest.map fun v => v.category).sum = W) (hd : decode c.code pc = .ok (.invokestatic index, 3)) (hf : rm.frames + 1 ≤ R.frames) (hl : W + (maxL + 11) + rm.locals ≤ R.locals) (hc : cells + rm.cells ≤ R.cells) (hs : slots + rm.slots ≤ R.slots) {P : Outcome → State → Prop}
    (k : ∀ (T' : State) (L : List Loc) (v : Option Value), Qc v T'.heap L → Stand p l e R s m args below meth c T' (locs ++ L) (cells + rm.cells) (slots + rm.slots) → Go p.tables e below P (T'.setTop (mkF m (pc + 3) Ls (v.toList ++ rest)))) :
    Go p.tables e below P (T.setTop (mkF m pc Ls st)) := by
  subst hst
  obtain ⟨v, _, ⟨T', L', k', n'⟩, -, X', ⟨L, hQ, q1, q2, q3⟩, st⟩ := Jvm.LawKit.callS X hx (y := y) hown (mvT hZ w1) (mvT hZ w2) (mvT hZ w3) (mvT hZ w4) hy (backOf (W := W) hM hZ w4 w3 hf hl) (g := mkF m pc Ls (argsL.reverse ++ rest)) rfl hsize (argsL := argsL) (rest := rest) (lenOf hpd hlen) rfl (by show 2 * 0 + _ ≤ _; omega) hd (fun _ _ => ⟨has, eT, hc, hs⟩)
  dsimp only [Pt.U, Pt.locs, Pt.cells, Pt.slots] at X' q1 q2 q3 st hQ
  subst q1 q2 q3
  exact Go.step st (k T' L v hQ X')
theorem goI (X : Stand p l e R s m args below meth c T locs cells slots) (hx : p.tables.exec = Jvm.exec) (hZ : Z.Warmed39 s.vm) {own : String} {index : Nat} {y : MethodName} {bytes : ByteArray} {maxL : Nat} (hy1 : y.name = "<init>") (hown : s.vm.findClass own = some m.cls)
    (w1 : (Jvm.Cond.methodLink own index y).before a0 Z = true) (w2 : (Jvm.Cond.instanceMethod y).before a0 Z = true) (w3 : (Jvm.Cond.initialized y.cls).before a0 Z = true) (w4 : (Jvm.Cond.code y bytes maxL none).before a0 Z = true)
    (hy : y.cls ≠ "java/lang/invoke/MethodHandle" ∧ y.cls ≠ "java/lang/invoke/VarHandle") {rm : Room} {as : Array Value} {Qc : Option Value → Heap → List Loc → Prop} (hM : Con l Z y bytes maxL none [] rm as h Qc) (eT : T.heap = h)
    {pc : Nat} {Ls : Array Slot} {st : List Value} (hsize : Ls.size = c.maxLocals) (a : Addr) (argsL rest : List Value) (has : (Value.ref a :: argsL).toArray = as) {ps : List FieldType} {r : Option FieldType} (hpd : parseMethodDescriptor y.desc = some ⟨ps, r⟩) (hlen : argsL.length = ps.length) (hst : st = argsL.reverse ++ .ref a :: rest)
    (W : Nat) (hW : (rest.map fun v => v.category).sum = W) (hd : decode c.code pc = .ok (.invokespecial index, 3)) (hf : rm.frames + 1 ≤ R.frames) (hl : W + (maxL + 11) + rm.locals ≤ R.locals) (hc : cells + rm.cells ≤ R.cells) (hs : slots + rm.slots ≤ R.slots) {P : Outcome → State → Prop}
    (k : ∀ (T' : State) (L : List Loc) (v : Option Value), Qc v T'.heap L → Stand p l e R s m args below meth c T' (locs ++ L) (cells + rm.cells) (slots + rm.slots) → Go p.tables e below P (T'.setTop (mkF m (pc + 3) Ls (v.toList ++ rest)))) :
    Go p.tables e below P (T.setTop (mkF m pc Ls st)) := by
  subst hst
  obtain ⟨v, _, ⟨T', L', k', n'⟩, -, X', ⟨L, hQ, q1, q2, q3⟩, st⟩ := X.specialBack hx (y := y) hy1 hown (mvT hZ w1) (mvT hZ w2) (mvT hZ w4) hy (backOf (W := W) hM hZ w4 w3 hf hl) (g := mkF m pc Ls (argsL.reverse ++ .ref a :: rest)) rfl hsize (Steps.refl _) (a := a) (argsL := argsL) (rest := rest) (lenOf hpd hlen) rfl (by show 2 * 0 + _ ≤ _; omega) hd (fun _ _ => ⟨has, eT, hc, hs⟩)
  dsimp only [Pt.U, Pt.locs, Pt.cells, Pt.slots] at X' q1 q2 q3 st hQ
  subst q1 q2 q3
  exact Go.via st (k T' L v hQ X')
theorem goV (X : Stand p l e R s m args below meth c T locs cells slots) (hx : p.tables.exec = Jvm.exec) (hZ : Z.Warmed39 s.vm) {own C : String} {index : Nat} {y z : MethodName} {bytes : ByteArray} {maxL : Nat} {ret : Option FieldType} (hown : s.vm.findClass own = some m.cls)
    (w1 : (Jvm.Cond.methodLink own index y).before a0 Z = true) (w2 : (Jvm.Cond.declares y).before a0 Z = true) (hnf : NotFace s y) (w5 : (Jvm.Cond.selects C y z).before a0 Z = true) (w6 : (Jvm.Cond.instanceMethod z).before a0 Z = true) (w3 : (Jvm.Cond.initialized z.cls).before a0 Z = true) (w4 : (Jvm.Cond.code z bytes maxL ret).before a0 Z = true)
    (hy : y.cls ≠ "java/lang/invoke/MethodHandle" ∧ y.cls ≠ "java/lang/invoke/VarHandle") {rm : Room} {as : Array Value} {Qc : Option Value → Heap → List Loc → Prop} (hM : Con l Z z bytes maxL ret [] rm as h Qc) (eT : T.heap = h)
    {a : Addr} (E : Exa Z h a C) {pc : Nat} {Ls : Array Slot} {st : List Value} (hsize : Ls.size = c.maxLocals) (argsL rest : List Value) (has : (Value.ref a :: argsL).toArray = as) {ps : List FieldType} {r : Option FieldType} (hpd : parseMethodDescriptor y.desc = some ⟨ps, r⟩) (hlen : argsL.length = ps.length) (hst : st = argsL.reverse ++ .ref a :: rest)
    (W : Nat) (hW : (rest.map fun v => v.category).sum = W) (hd : decode c.code pc = .ok (.invokevirtual index, 3)) (hf : rm.frames + 1 ≤ R.frames) (hl : W + (maxL + 11) + rm.locals ≤ R.locals) (hc : cells + rm.cells ≤ R.cells) (hs : slots + rm.slots ≤ R.slots) {P : Outcome → State → Prop}
    (k : ∀ (T' : State) (L : List Loc) (v : Option Value), Qc v T'.heap L → Stand p l e R s m args below meth c T' (locs ++ L) (cells + rm.cells) (slots + rm.slots) → Go p.tables e below P (T'.setTop (mkF m (pc + 3) Ls (v.toList ++ rest)))) :
    Go p.tables e below P (T.setTop (mkF m pc Ls st)) := by
  subst hst
  obtain ⟨cq, kq, qa, qb, qc⟩ := isOf hZ eT E
  obtain ⟨v, _, ⟨T', L', k', n'⟩, -, X', ⟨L, hQ, q1, q2, q3⟩, st⟩ := X.virtualBack hx (y := y) (z := z) hown (mvT hZ w1) (mvT hZ w2) hnf (mvT hZ w5) (mvT hZ w6) hy (backOf (W := W) hM hZ w4 w3 hf hl) qa qc (g := mkF m pc Ls (argsL.reverse ++ .ref a :: rest)) rfl hsize (Steps.refl _) (argsL := argsL) (rest := rest) (lenOf hpd hlen) rfl (by show 2 * 0 + _ ≤ _; omega) hd (fun _ _ => ⟨has, eT, hc, hs⟩)
  dsimp only [Pt.U, Pt.locs, Pt.cells, Pt.slots] at X' q1 q2 q3 st hQ
  subst q1 q2 q3
  exact Go.via st (k T' L v hQ X')
end Kit

/-! plain facts -/
def NLZ (x k : Int32) : Prop := (x = 0 → k.toInt = 32) ∧ (x.toInt < 0 → k.toInt = 0) ∧ (0 < x.toInt → ∃ K : Nat, K ≤ 31 ∧ k.toInt = K ∧ (2 : Int) ^ (31 - K) ≤ x.toInt ∧ x.toInt < (2 : Int) ^ (32 - K))
theorem own_lt {x y : Int32} : x < y ↔ x.toInt < y.toInt := Int32.lt_iff_toInt_lt
theorem own_nlz (x z : Int32) (K : Nat) (hK : K ≤ 31) (hz : z.toInt = K) (h0 : 0 < x.toInt) (P Q : Int) (hP : (2 : Int) ^ (31 - K) = P) (hQ : (2 : Int) ^ (32 - K) = Q) (h1 : P ≤ x.toInt) (h2 : x.toInt < Q) : NLZ x z := by
  subst hP hQ
  refine ⟨fun h => ?_, fun h => by omega, fun _ => ⟨K, hK, hz, h1, h2⟩⟩
  rw [h] at h0; exact absurd h0 (by decide)
theorem own_z : (0 : Int32).toInt = 0 := rfl
theorem own_shr (x y q : Int32) (k : Nat) (P : Int) (hk : q.toBitVec.toNat % 32 = k) (h0 : 0 < k) (hP : ((2 ^ k : Nat) : Int) = P) (hx : 0 ≤ x.toInt) (hy : y = ((x.toUInt32 >>> (q &&& 31).toUInt32).toInt32)) : y.toInt = x.toInt / P := by
  have l := x.toInt_lt
  rw [hy, c_iushr x q k hk h0, hP, Int.emod_eq_of_lt hx (by omega)]
def NLZL (v : Int64) (k : Int32) : Prop := ∃ K : Nat, 1 ≤ K ∧ K ≤ 63 ∧ k.toInt = K ∧ (2 : Int) ^ (63 - K) ≤ v.toInt ∧ v.toInt < (2 : Int) ^ (64 - K)
theorem own_hi (v : Int64) (h0 : 0 < v.toInt) : ((v.toUInt64 >>> ((32 : Int32) &&& 0x3f).toInt64.toUInt64).toInt64).toInt32.toInt = v.toInt / 4294967296 := by
  have h1 := c_lushr v 32 32 (by decide) (by decide)
  have l := v.toInt_lt
  rw [show ((2 ^ 32 : Nat) : Int) = 4294967296 from rfl, Int.emod_eq_of_lt (by omega) (by omega)] at h1
  have h2 := c_l2i ((v.toUInt64 >>> ((32 : Int32) &&& 0x3f).toInt64.toUInt64).toInt64)
  rw [h1] at h2
  have l1 := ((v.toUInt64 >>> ((32 : Int32) &&& 0x3f).toInt64.toUInt64).toInt64).toInt32.toInt_lt
  have l2 := ((v.toUInt64 >>> ((32 : Int32) &&& 0x3f).toInt64.toUInt64).toInt64).toInt32.le_toInt
  omega
theorem own_p2 (a b c : Nat) (h : a + b = c) : (2 : Int) ^ a * 2 ^ b = 2 ^ c := by rw [← h, Int.pow_add]
theorem own_Lhi (v : Int64) (hi k : Int32) (h0 : 0 < v.toInt) (hh : hi.toInt = v.toInt / 4294967296) (hne : ¬ hi = 0) (hk : NLZ hi k) : NLZL v k := by
  have hz : hi.toInt ≠ 0 := fun q => hne (Int32.toInt_inj.mp q)
  have hp : 0 < hi.toInt := by omega
  obtain ⟨K, k1, k2, k3, k4⟩ := hk.2.2 hp
  have l := v.toInt_lt
  have e1 := own_p2 (31 - K) 32 (63 - K) (by omega)
  have e2 := own_p2 (32 - K) 32 (64 - K) (by omega)
  have e3 : (2 : Int) ^ 32 = 4294967296 := rfl
  rw [e3] at e1 e2
  refine ⟨K, ?_, by omega, k2, by omega, by omega⟩
  rcases Nat.eq_zero_or_pos K with q | q
  · subst q; rw [show (2 : Int) ^ (31 - 0) = 2147483648 from rfl] at k3; omega
  · exact q
theorem own_Llo (v : Int64) (hi k r : Int32) (h0 : 0 < v.toInt) (hh : hi.toInt = v.toInt / 4294967296) (he : hi = 0) (hk : NLZ v.toInt32 k) (hr : r = (32 : Int32) + k) : NLZL v r := by
  have hz : hi.toInt = 0 := by rw [he]; rfl
  have l := v.toInt32.toInt_lt; have l2 := v.toInt32.le_toInt
  have h1 := c_l2i v
  have hs : ∀ K : Nat, K ≤ 31 → k.toInt = K → r.toInt = (32 + K : Nat) := fun K q1 q2 => by
    have := c_iadd 32 k
    have l3 := ((32 : Int32) + k).toInt_lt; have l4 := ((32 : Int32) + k).le_toInt
    have e : (32 : Int32).toInt = 32 := rfl
    rw [hr]; rw [e, q2] at this; omega
  by_cases hn : v.toInt32.toInt < 0
  · have hk0 := hk.2.1 hn
    refine ⟨32, by omega, by omega, by have := hs 0 (by omega) (by omega); omega, ?_, ?_⟩
    · rw [show (2 : Int) ^ (63 - 32) = 2147483648 from rfl]; omega
    · rw [show (2 : Int) ^ (64 - 32) = 4294967296 from rfl]; omega
  · have hp : 0 < v.toInt32.toInt := by omega
    obtain ⟨K, k1, k2, k3, k4⟩ := hk.2.2 hp
    have e : v.toInt32.toInt = v.toInt := by omega
    rw [e] at k3 k4
    exact ⟨32 + K, by omega, by omega, hs K k1 k2, by rw [show 63 - (32 + K) = 31 - K by omega]; exact k3, by rw [show 64 - (32 + K) = 32 - K by omega]; exact k4⟩
/-- what 'of' makes: the shift q, the mantissa -/
def MAN (v m : Int64) (q : Int32) : Prop := ∃ S : Nat, S ≤ 62 ∧ q.toInt = S ∧ m.toInt = v.toInt * 2 ^ S ∧ 4611686018427387904 ≤ m.toInt
theorem own_q64 (q : Int32) (S : Nat) (hS : S ≤ 62) (hq : q.toInt = S) : q.toBitVec.toNat % 64 = S := by
  have : q.toBitVec.toInt = S := hq
  rw [BitVec.toInt_eq_toNat_cond] at this
  have := q.toBitVec.isLt
  split at * <;> omega
theorem own_man (v : Int64) (k : Int32) (h0 : 0 < v.toInt) (hk : NLZL v k) : MAN v (v <<< ((k - (1 : Int32)) &&& 0x3f).toInt64) (k - (1 : Int32)) := by
  obtain ⟨K, k1, k2, k3, k4, k5⟩ := hk
  have hq : (k - (1 : Int32)).toInt = ((K - 1 : Nat) : Int) := by
    have := c_isub k 1
    have l3 := (k - (1 : Int32)).toInt_lt; have l4 := (k - (1 : Int32)).le_toInt
    have e : (1 : Int32).toInt = 1 := rfl
    rw [e, k3] at this; omega
  have hs := c_lshl v (k - 1) (K - 1) (own_q64 _ _ (by omega) hq)
  have l1 := (v <<< ((k - (1 : Int32)) &&& 0x3f).toInt64).toInt_lt; have l2 := (v <<< ((k - (1 : Int32)) &&& 0x3f).toInt64).le_toInt
  have e1 := own_p2 (63 - K) (K - 1) 62 (by omega)
  have e2 := own_p2 (64 - K) (K - 1) 63 (by omega)
  have pp : (0 : Int) < 2 ^ (K - 1) := Int.pow_pos (by decide)
  have b1 := Int.mul_le_mul_of_nonneg_right k4 (Int.le_of_lt pp)
  have b2 := Int.mul_lt_mul_of_pos_right k5 pp
  rw [e1, show (2 : Int) ^ 62 = 4611686018427387904 from rfl] at b1
  rw [e2, show (2 : Int) ^ 63 = 9223372036854775808 from rfl] at b2
  rw [Int.natCast_pow, show ((2 : Nat) : Int) = 2 from rfl] at hs
  have key : (v <<< ((k - (1 : Int32)) &&& 0x3f).toInt64).toInt = v.toInt * 2 ^ (K - 1) := by
    generalize v.toInt * 2 ^ (K - 1) = Y at *
    omega
  exact ⟨K - 1, by omega, hq, key, by rw [key]; exact b1⟩
theorem own_back (v m : Int64) (q : Int32) (h0 : 0 < v.toInt) (h : MAN v m q) : ((m.toUInt64 >>> (q &&& 0x3f).toInt64.toUInt64).toInt64) = v := by
  obtain ⟨S, s1, s2, s3, s4⟩ := h
  apply Int64.toInt_inj.mp
  have l := m.toInt_lt
  rcases Nat.eq_zero_or_pos S with z | z
  · subst z
    have hq : q = 0 := Int32.toInt_inj.mp (by rw [s2]; rfl)
    subst hq
    have e : ((m.toUInt64 >>> ((0 : Int32) &&& 0x3f).toInt64.toUInt64).toInt64) = m := by
      apply Int64.toBitVec_inj.mp
      show (m.toUInt64 >>> (0 : UInt64)).toBitVec = _
      simp
    rw [e, s3]; omega
  · have h1 := c_lushr m q S (own_q64 q S s1 s2) z
    rw [h1, Int.emod_eq_of_lt (by omega) (by omega), s3, Int.natCast_pow, show ((2 : Nat) : Int) = 2 from rfl]
    exact Int.mul_ediv_cancel _ (Int.ne_of_gt (Int.pow_pos (by decide)))
theorem own_again (v m : Int64) (q : Int32) (h : MAN v m q) : (v <<< (q &&& 0x3f).toInt64) = m := by
  obtain ⟨S, s1, s2, s3, s4⟩ := h
  apply Int64.toInt_inj.mp
  have hs := c_lshl v q S (own_q64 q S s1 s2)
  rw [Int.natCast_pow, show ((2 : Nat) : Int) = 2 from rfl, ← s3] at hs
  have l1 := (v <<< (q &&& 0x3f).toInt64).toInt_lt; have l2 := (v <<< (q &&& 0x3f).toInt64).le_toInt
  have l3 := m.toInt_lt; have l4 := m.le_toInt
  omega
theorem own_neg (q : Int32) (S : Nat) (hS : S ≤ 62) (hq : q.toInt = S) : (-q).toInt = -S := by
  have := c_ineg q
  have l3 := (-q).toInt_lt; have l4 := (-q).le_toInt
  rw [hq] at this; omega
theorem own_v (a : Int64) (s : Int32) : 0 ≤ (((a &&& (9223372036854775807 : Int64)).toUInt64 >>> ((s &&& (63 : Int32)) &&& 0x3f).toInt64.toUInt64).toInt64).toInt := by
  have h0 : 0 ≤ (a &&& (9223372036854775807 : Int64)).toInt := (c_andSL a 9223372036854775807).2.2 (by decide)
  generalize (a &&& (9223372036854775807 : Int64)) = b at *
  generalize (s &&& (63 : Int32)) = t
  have l := b.toInt_lt
  by_cases z : t.toBitVec.toNat % 64 = 0
  · have e : (t &&& 0x3f).toInt64.toUInt64 = 0 := by
      have h1 : (t &&& 0x3f) = 0 := by
        apply Int32.toInt_inj.mp
        have := c_mask t 0x3f 6 (by decide) (by decide)
        rw [this]
        show t.toBitVec.toInt % 64 = 0
        rw [BitVec.toInt_eq_toNat_cond]; split <;> omega
      rw [h1]; rfl
    rw [e]
    have e2 : (b.toUInt64 >>> (0 : UInt64)).toInt64 = b := by
      apply Int64.toBitVec_inj.mp
      show (b.toUInt64 >>> (0 : UInt64)).toBitVec = _
      simp
    rw [e2]; exact h0
  · rw [c_lushr b t _ rfl (by omega)]
    exact Int.ediv_nonneg (Int.emod_nonneg _ (by decide)) (Int.natCast_nonneg _)

theorem d1_0 : decode prog_3_method_2_code 0 = .ok (.lload_n 0, 1) := by decide +kernel
theorem d1_1 : decode prog_3_method_2_code 1 = .ok (.lconst 0, 1) := by decide +kernel
theorem d1_2 : decode prog_3_method_2_code 2 = .ok (.lcmp, 1) := by decide +kernel
theorem d1_3 : decode prog_3_method_2_code 3 = .ok (.ifCond .gt 17, 3) := by decide +kernel
theorem d1_6 : decode prog_3_method_2_code 6 = .ok (.new 17, 3) := by decide +kernel
theorem d1_9 : decode prog_3_method_2_code 9 = .ok (.dup, 1) := by decide +kernel
theorem d1_10 : decode prog_3_method_2_code 10 = .ok (.lload_n 0, 1) := by decide +kernel
theorem d1_11 : decode prog_3_method_2_code 11 = .ok (.invokedynamic 19, 5) := by decide +kernel
theorem d1_16 : decode prog_3_method_2_code 16 = .ok (.invokespecial 23, 3) := by decide +kernel
theorem d1_19 : decode prog_3_method_2_code 19 = .ok (.athrow, 1) := by decide +kernel
theorem d1_20 : decode prog_3_method_2_code 20 = .ok (.lload_n 0, 1) := by decide +kernel
theorem d1_21 : decode prog_3_method_2_code 21 = .ok (.invokestatic 26, 3) := by decide +kernel
theorem d1_24 : decode prog_3_method_2_code 24 = .ok (.iconst 1, 1) := by decide +kernel
theorem d1_25 : decode prog_3_method_2_code 25 = .ok (.isub, 1) := by decide +kernel
theorem d1_26 : decode prog_3_method_2_code 26 = .ok (.istore_n 2, 1) := by decide +kernel
theorem d1_27 : decode prog_3_method_2_code 27 = .ok (.new 8, 3) := by decide +kernel
theorem d1_30 : decode prog_3_method_2_code 30 = .ok (.dup, 1) := by decide +kernel
theorem d1_31 : decode prog_3_method_2_code 31 = .ok (.lload_n 0, 1) := by decide +kernel
theorem d1_32 : decode prog_3_method_2_code 32 = .ok (.iload_n 2, 1) := by decide +kernel
theorem d1_33 : decode prog_3_method_2_code 33 = .ok (.lshl, 1) := by decide +kernel
theorem d1_34 : decode prog_3_method_2_code 34 = .ok (.iload_n 2, 1) := by decide +kernel
theorem d1_35 : decode prog_3_method_2_code 35 = .ok (.ineg, 1) := by decide +kernel
theorem d1_36 : decode prog_3_method_2_code 36 = .ok (.invokespecial 32, 3) := by decide +kernel
theorem d1_39 : decode prog_3_method_2_code 39 = .ok (.areturn, 1) := by decide +kernel
theorem pn1 : plainFor (⟨"com/example/hearthline/hearthline/BinaryEstimate", "of", "(J)Lcom/example/hearthline/hearthline/BinaryEstimate;"⟩ : MethodName) = true := plainFor_of_name (by first | (simp [plainName, overriddenIn]; done) | decide +kernel)
theorem pd1 : parseMethodDescriptor "(J)Lcom/example/hearthline/hearthline/BinaryEstimate;" = some ⟨[.long], some (.object "com/example/hearthline/hearthline/BinaryEstimate")⟩ := by decide +kernel
theorem ef1 (m : MethodId) (x0 : Int64) : entryFrame m #[(.long x0)] 3 = mkF m 0 #[.val (.long x0), .second, .unset] [] := by first | (simp [entryFrame, mkF, argsToLocals, Value.category]; done) | rfl
theorem d2_0 : decode jdk_35_method_48_code 0 = .ok (.lload_n 0, 1) := by decide +kernel
theorem d2_1 : decode jdk_35_method_48_code 1 = .ok (.bipush 32, 2) := by decide +kernel
theorem d2_3 : decode jdk_35_method_48_code 3 = .ok (.lushr, 1) := by decide +kernel
theorem d2_4 : decode jdk_35_method_48_code 4 = .ok (.l2i, 1) := by decide +kernel
theorem d2_5 : decode jdk_35_method_48_code 5 = .ok (.istore_n 2, 1) := by decide +kernel
theorem d2_6 : decode jdk_35_method_48_code 6 = .ok (.iload_n 2, 1) := by decide +kernel
theorem d2_7 : decode jdk_35_method_48_code 7 = .ok (.ifCond .ne 14, 3) := by decide +kernel
theorem d2_10 : decode jdk_35_method_48_code 10 = .ok (.bipush 32, 2) := by decide +kernel
theorem d2_12 : decode jdk_35_method_48_code 12 = .ok (.lload_n 0, 1) := by decide +kernel
theorem d2_13 : decode jdk_35_method_48_code 13 = .ok (.l2i, 1) := by decide +kernel
theorem d2_14 : decode jdk_35_method_48_code 14 = .ok (.invokestatic 308, 3) := by decide +kernel
theorem d2_17 : decode jdk_35_method_48_code 17 = .ok (.iadd, 1) := by decide +kernel
theorem d2_18 : decode jdk_35_method_48_code 18 = .ok (.goto 7, 3) := by decide +kernel
theorem d2_21 : decode jdk_35_method_48_code 21 = .ok (.iload_n 2, 1) := by decide +kernel
theorem d2_22 : decode jdk_35_method_48_code 22 = .ok (.invokestatic 308, 3) := by decide +kernel
theorem d2_25 : decode jdk_35_method_48_code 25 = .ok (.ireturn, 1) := by decide +kernel
theorem pn2 : plainFor (⟨"java/lang/Long", "numberOfLeadingZeros", "(J)I"⟩ : MethodName) = true := plainFor_of_name (by first | (simp [plainName, overriddenIn]; done) | decide +kernel)
theorem pd2 : parseMethodDescriptor "(J)I" = some ⟨[.long], some .int⟩ := by decide +kernel
theorem ef2 (m : MethodId) (x0 : Int64) : entryFrame m #[(.long x0)] 3 = mkF m 0 #[.val (.long x0), .second, .unset] [] := by first | (simp [entryFrame, mkF, argsToLocals, Value.category]; done) | rfl
theorem d3_0 : decode jdk_33_method_47_code 0 = .ok (.iload_n 0, 1) := by decide +kernel
theorem d3_1 : decode jdk_33_method_47_code 1 = .ok (.ifCond .gt 14, 3) := by decide +kernel
theorem d3_4 : decode jdk_33_method_47_code 4 = .ok (.iload_n 0, 1) := by decide +kernel
theorem d3_5 : decode jdk_33_method_47_code 5 = .ok (.ifCond .ne 8, 3) := by decide +kernel
theorem d3_8 : decode jdk_33_method_47_code 8 = .ok (.bipush 32, 2) := by decide +kernel
theorem d3_10 : decode jdk_33_method_47_code 10 = .ok (.goto 4, 3) := by decide +kernel
theorem d3_13 : decode jdk_33_method_47_code 13 = .ok (.iconst 0, 1) := by decide +kernel
theorem d3_14 : decode jdk_33_method_47_code 14 = .ok (.ireturn, 1) := by decide +kernel
theorem d3_15 : decode jdk_33_method_47_code 15 = .ok (.bipush 31, 2) := by decide +kernel
theorem d3_17 : decode jdk_33_method_47_code 17 = .ok (.istore_n 1, 1) := by decide +kernel
theorem d3_18 : decode jdk_33_method_47_code 18 = .ok (.iload_n 0, 1) := by decide +kernel
theorem d3_19 : decode jdk_33_method_47_code 19 = .ok (.ldc_w 264, 3) := by decide +kernel
theorem d3_22 : decode jdk_33_method_47_code 22 = .ok (.if_icmp .lt 11, 3) := by decide +kernel
theorem d3_25 : decode jdk_33_method_47_code 25 = .ok (.iinc 1 (-16), 3) := by decide +kernel
theorem d3_28 : decode jdk_33_method_47_code 28 = .ok (.iload_n 0, 1) := by decide +kernel
theorem d3_29 : decode jdk_33_method_47_code 29 = .ok (.bipush 16, 2) := by decide +kernel
theorem d3_31 : decode jdk_33_method_47_code 31 = .ok (.iushr, 1) := by decide +kernel
theorem d3_32 : decode jdk_33_method_47_code 32 = .ok (.istore_n 0, 1) := by decide +kernel
theorem d3_33 : decode jdk_33_method_47_code 33 = .ok (.iload_n 0, 1) := by decide +kernel
theorem d3_34 : decode jdk_33_method_47_code 34 = .ok (.sipush 256, 3) := by decide +kernel
theorem d3_37 : decode jdk_33_method_47_code 37 = .ok (.if_icmp .lt 11, 3) := by decide +kernel
theorem d3_40 : decode jdk_33_method_47_code 40 = .ok (.iinc 1 (-8), 3) := by decide +kernel
theorem d3_43 : decode jdk_33_method_47_code 43 = .ok (.iload_n 0, 1) := by decide +kernel
theorem d3_44 : decode jdk_33_method_47_code 44 = .ok (.bipush 8, 2) := by decide +kernel
theorem d3_46 : decode jdk_33_method_47_code 46 = .ok (.iushr, 1) := by decide +kernel
theorem d3_47 : decode jdk_33_method_47_code 47 = .ok (.istore_n 0, 1) := by decide +kernel
theorem d3_48 : decode jdk_33_method_47_code 48 = .ok (.iload_n 0, 1) := by decide +kernel
theorem d3_49 : decode jdk_33_method_47_code 49 = .ok (.bipush 16, 2) := by decide +kernel
theorem d3_51 : decode jdk_33_method_47_code 51 = .ok (.if_icmp .lt 10, 3) := by decide +kernel
theorem d3_54 : decode jdk_33_method_47_code 54 = .ok (.iinc 1 (-4), 3) := by decide +kernel
theorem d3_57 : decode jdk_33_method_47_code 57 = .ok (.iload_n 0, 1) := by decide +kernel
theorem d3_58 : decode jdk_33_method_47_code 58 = .ok (.iconst 4, 1) := by decide +kernel
theorem d3_59 : decode jdk_33_method_47_code 59 = .ok (.iushr, 1) := by decide +kernel
theorem d3_60 : decode jdk_33_method_47_code 60 = .ok (.istore_n 0, 1) := by decide +kernel
theorem d3_61 : decode jdk_33_method_47_code 61 = .ok (.iload_n 0, 1) := by decide +kernel
theorem d3_62 : decode jdk_33_method_47_code 62 = .ok (.iconst 4, 1) := by decide +kernel
theorem d3_63 : decode jdk_33_method_47_code 63 = .ok (.if_icmp .lt 10, 3) := by decide +kernel
theorem d3_66 : decode jdk_33_method_47_code 66 = .ok (.iinc 1 (-2), 3) := by decide +kernel
theorem d3_69 : decode jdk_33_method_47_code 69 = .ok (.iload_n 0, 1) := by decide +kernel
theorem d3_70 : decode jdk_33_method_47_code 70 = .ok (.iconst 2, 1) := by decide +kernel
theorem d3_71 : decode jdk_33_method_47_code 71 = .ok (.iushr, 1) := by decide +kernel
theorem d3_72 : decode jdk_33_method_47_code 72 = .ok (.istore_n 0, 1) := by decide +kernel
theorem d3_73 : decode jdk_33_method_47_code 73 = .ok (.iload_n 1, 1) := by decide +kernel
theorem d3_74 : decode jdk_33_method_47_code 74 = .ok (.iload_n 0, 1) := by decide +kernel
theorem d3_75 : decode jdk_33_method_47_code 75 = .ok (.iconst 1, 1) := by decide +kernel
theorem d3_76 : decode jdk_33_method_47_code 76 = .ok (.iushr, 1) := by decide +kernel
theorem d3_77 : decode jdk_33_method_47_code 77 = .ok (.isub, 1) := by decide +kernel
theorem d3_78 : decode jdk_33_method_47_code 78 = .ok (.ireturn, 1) := by decide +kernel
theorem pn3 : plainFor (⟨"java/lang/Integer", "numberOfLeadingZeros", "(I)I"⟩ : MethodName) = true := plainFor_of_name (by first | (simp [plainName, overriddenIn]; done) | decide +kernel)
theorem pd3 : parseMethodDescriptor "(I)I" = some ⟨[.int], some .int⟩ := by decide +kernel
theorem ef3 (m : MethodId) (x0 : Int32) : entryFrame m #[(.int x0)] 2 = mkF m 0 #[.val (.int x0), .unset] [] := by first | (simp [entryFrame, mkF, argsToLocals, Value.category]; done) | rfl
theorem d4_0 : decode prog_3_method_1_code 0 = .ok (.aload_n 0, 1) := by decide +kernel
theorem d4_1 : decode prog_3_method_1_code 1 = .ok (.invokespecial 1, 3) := by decide +kernel
theorem d4_4 : decode prog_3_method_1_code 4 = .ok (.aload_n 0, 1) := by decide +kernel
theorem d4_5 : decode prog_3_method_1_code 5 = .ok (.lload_n 1, 1) := by decide +kernel
theorem d4_6 : decode prog_3_method_1_code 6 = .ok (.putfield 7, 3) := by decide +kernel
theorem d4_9 : decode prog_3_method_1_code 9 = .ok (.aload_n 0, 1) := by decide +kernel
theorem d4_10 : decode prog_3_method_1_code 10 = .ok (.iload_n 3, 1) := by decide +kernel
theorem d4_11 : decode prog_3_method_1_code 11 = .ok (.putfield 13, 3) := by decide +kernel
theorem d4_14 : decode prog_3_method_1_code 14 = .ok (.return_, 1) := by decide +kernel
theorem pn4 : plainFor (⟨"com/example/hearthline/hearthline/BinaryEstimate", "<init>", "(JI)V"⟩ : MethodName) = true := plainFor_of_name (by first | (simp [plainName, overriddenIn]; done) | decide +kernel)
theorem pd4 : parseMethodDescriptor "(JI)V" = some ⟨[.long, .int], none⟩ := by decide +kernel
theorem ef4 (m : MethodId) (x0 : Addr) (x1 : Int64) (x2 : Int32) : entryFrame m #[(.ref x0), (.long x1), (.int x2)] 4 = mkF m 0 #[.val (.ref x0), .val (.long x1), .second, .val (.int x2)] [] := by first | (simp [entryFrame, mkF, argsToLocals, Value.category]; done) | rfl
theorem d6_0 : decode prog_3_method_3_code 0 = .ok (.aload_n 0, 1) := by decide +kernel
theorem d6_1 : decode prog_3_method_3_code 1 = .ok (.getfield 7, 3) := by decide +kernel
theorem d6_4 : decode prog_3_method_3_code 4 = .ok (.lreturn, 1) := by decide +kernel
theorem pn6 : plainFor (⟨"com/example/hearthline/hearthline/BinaryEstimate", "mantissa", "()J"⟩ : MethodName) = true := plainFor_of_name (by first | (simp [plainName, overriddenIn]; done) | decide +kernel)
theorem pd6 : parseMethodDescriptor "()J" = some ⟨[], some .long⟩ := by decide +kernel
theorem ef6 (m : MethodId) (x0 : Addr) : entryFrame m #[(.ref x0)] 1 = mkF m 0 #[.val (.ref x0)] [] := by first | (simp [entryFrame, mkF, argsToLocals, Value.category]; done) | rfl
theorem d7_0 : decode prog_3_method_4_code 0 = .ok (.aload_n 0, 1) := by decide +kernel
theorem d7_1 : decode prog_3_method_4_code 1 = .ok (.getfield 13, 3) := by decide +kernel
theorem d7_4 : decode prog_3_method_4_code 4 = .ok (.ireturn, 1) := by decide +kernel
theorem pn7 : plainFor (⟨"com/example/hearthline/hearthline/BinaryEstimate", "exponent", "()I"⟩ : MethodName) = true := plainFor_of_name (by first | (simp [plainName, overriddenIn]; done) | decide +kernel)
theorem pd7 : parseMethodDescriptor "()I" = some ⟨[], some .int⟩ := by decide +kernel
theorem ef7 (m : MethodId) (x0 : Addr) : entryFrame m #[(.ref x0)] 1 = mkF m 0 #[.val (.ref x0)] [] := by first | (simp [entryFrame, mkF, argsToLocals, Value.category]; done) | rfl
set_option maxRecDepth 65536 in
set_option maxHeartbeats 40000000 in
theorem rm3 (l : Launch) (Z : State) (a0 : Array Value) (hw : ∀ d ∈ tables_1, d.before a0 Z = true) (ws : List Jvm.Cond) (x0 : Int32) (h0 : Heap) : Con l Z (⟨"java/lang/Integer", "numberOfLeadingZeros", "(I)I"⟩ : MethodName) jdk_33_method_47_code 2 (some .int) ws ({ frames := 0, cells := 0, slots := 0, locals := 0 } : Room) #[(.int x0)] h0 (fun v h L => (∃ k : Int32, v = some (.int k) ∧ NLZ x0 k) ∧ h = h0 ∧ L = []) := by
  refine Con.of pn3 fun p e s m below meth c s₁ hZ hx hby hml hown hret hlk hnm X0 e0 => ?_
  rw [ef3]
  show Go _ _ _ _ (s₁.setTop (mkF m 0 #[.val (.int x0), .unset] []))
  refine Go.step (fun _ k => XS.iloadN X0.here hx rfl (hb hby d3_0) rfl k) ?_
  show Go _ _ _ _ (s₁.setTop (mkF m 1 #[.val (.int x0), .unset] [(.int x0)]))
  by_cases hc1 : (0 : Int32) < x0
  · have nhc1 := hc1
    rw [own_lt, own_z] at nhc1
    refine Go.step (fun _ k => XS.ifYes X0.here hx rfl (pc0 := 1) (pc' := 15) rfl (hb hby d3_1) rfl ((if0 _ _).trans (tlt hc1).2.2.1) (by decide) (by decide) k) ?_
    show Go _ _ _ _ (s₁.setTop (mkF m 15 #[.val (.int x0), .unset] []))
    refine Go.step (fun _ k => XS.bipush X0.here hx rfl (hb hby d3_15) k) ?_
    show Go _ _ _ _ (s₁.setTop (mkF m 17 #[.val (.int x0), .unset] [(.int (31 : Int32))]))
    refine Go.step (fun _ k => XS.istoreN X0.here hx rfl (hb hby d3_17) rfl (l' := #[.val (.int x0), .val (.int (31 : Int32))]) rfl k) ?_
    show Go _ _ _ _ (s₁.setTop (mkF m 18 #[.val (.int x0), .val (.int (31 : Int32))] []))
    refine Go.step (fun _ k => XS.iloadN X0.here hx rfl (hb hby d3_18) rfl k) ?_
    show Go _ _ _ _ (s₁.setTop (mkF m 19 #[.val (.int x0), .val (.int (31 : Int32))] [(.int x0)]))
    refine Go.step (X0.ldcwInt hx hown (mvT hZ (hw _ (List.mem_of_getElem? (i := 13) rfl))) (g := (mkF m 19 #[.val (.int x0), .val (.int (31 : Int32))] [(.int x0)])) rfl (hb hby d3_19)) ?_
    show Go _ _ _ _ (s₁.setTop (mkF m 22 #[.val (.int x0), .val (.int (31 : Int32))] [(.int (65536 : Int32)), (.int x0)]))
    by_cases hc2 : x0 < (65536 : Int32)
    · have nhc2 := hc2
      rw [own_lt, (show (65536 : Int32).toInt = 65536 from rfl)] at nhc2
      refine Go.step (fun _ k => XS.icmpYes X0.here hx rfl (pc0 := 22) (pc' := 33) rfl (hb hby d3_22) rfl (tlt hc2).1 (by decide) (by decide) k) ?_
      show Go _ _ _ _ (s₁.setTop (mkF m 33 #[.val (.int x0), .val (.int (31 : Int32))] []))
      refine Go.step (fun _ k => XS.iloadN X0.here hx rfl (hb hby d3_33) rfl k) ?_
      show Go _ _ _ _ (s₁.setTop (mkF m 34 #[.val (.int x0), .val (.int (31 : Int32))] [(.int x0)]))
      refine Go.step (fun _ k => XS.sipush X0.here hx rfl (hb hby d3_34) k) ?_
      show Go _ _ _ _ (s₁.setTop (mkF m 37 #[.val (.int x0), .val (.int (31 : Int32))] [(.int (256 : Int32)), (.int x0)]))
      by_cases hc3 : x0 < (256 : Int32)
      · have nhc3 := hc3
        rw [own_lt, (show (256 : Int32).toInt = 256 from rfl)] at nhc3
        refine Go.step (fun _ k => XS.icmpYes X0.here hx rfl (pc0 := 37) (pc' := 48) rfl (hb hby d3_37) rfl (tlt hc3).1 (by decide) (by decide) k) ?_
        show Go _ _ _ _ (s₁.setTop (mkF m 48 #[.val (.int x0), .val (.int (31 : Int32))] []))
        refine Go.step (fun _ k => XS.iloadN X0.here hx rfl (hb hby d3_48) rfl k) ?_
        show Go _ _ _ _ (s₁.setTop (mkF m 49 #[.val (.int x0), .val (.int (31 : Int32))] [(.int x0)]))
        refine Go.step (fun _ k => XS.bipush X0.here hx rfl (hb hby d3_49) k) ?_
        show Go _ _ _ _ (s₁.setTop (mkF m 51 #[.val (.int x0), .val (.int (31 : Int32))] [(.int (16 : Int32)), (.int x0)]))
        by_cases hc4 : x0 < (16 : Int32)
        · have nhc4 := hc4
          rw [own_lt, (show (16 : Int32).toInt = 16 from rfl)] at nhc4
          refine Go.step (fun _ k => XS.icmpYes X0.here hx rfl (pc0 := 51) (pc' := 61) rfl (hb hby d3_51) rfl (tlt hc4).1 (by decide) (by decide) k) ?_
          show Go _ _ _ _ (s₁.setTop (mkF m 61 #[.val (.int x0), .val (.int (31 : Int32))] []))
          refine Go.step (fun _ k => XS.iloadN X0.here hx rfl (hb hby d3_61) rfl k) ?_
          show Go _ _ _ _ (s₁.setTop (mkF m 62 #[.val (.int x0), .val (.int (31 : Int32))] [(.int x0)]))
          refine Go.step (fun _ k => XS.iconst X0.here hx rfl (hb hby d3_62) k) ?_
          show Go _ _ _ _ (s₁.setTop (mkF m 63 #[.val (.int x0), .val (.int (31 : Int32))] [(.int (4 : Int32)), (.int x0)]))
          by_cases hc5 : x0 < (4 : Int32)
          · have nhc5 := hc5
            rw [own_lt, (show (4 : Int32).toInt = 4 from rfl)] at nhc5
            refine Go.step (fun _ k => XS.icmpYes X0.here hx rfl (pc0 := 63) (pc' := 73) rfl (hb hby d3_63) rfl (tlt hc5).1 (by decide) (by decide) k) ?_
            show Go _ _ _ _ (s₁.setTop (mkF m 73 #[.val (.int x0), .val (.int (31 : Int32))] []))
            refine Go.step (fun _ k => XS.iloadN X0.here hx rfl (hb hby d3_73) rfl k) ?_
            show Go _ _ _ _ (s₁.setTop (mkF m 74 #[.val (.int x0), .val (.int (31 : Int32))] [(.int (31 : Int32))]))
            refine Go.step (fun _ k => XS.iloadN X0.here hx rfl (hb hby d3_74) rfl k) ?_
            show Go _ _ _ _ (s₁.setTop (mkF m 75 #[.val (.int x0), .val (.int (31 : Int32))] [(.int x0), (.int (31 : Int32))]))
            refine Go.step (fun _ k => XS.iconst X0.here hx rfl (hb hby d3_75) k) ?_
            show Go _ _ _ _ (s₁.setTop (mkF m 76 #[.val (.int x0), .val (.int (31 : Int32))] [(.int (1 : Int32)), (.int x0), (.int (31 : Int32))]))
            refine Go.step (fun _ k => XS.iushr X0.here hx rfl (hb hby d3_76) rfl k) ?_
            show Go _ _ _ _ (s₁.setTop (mkF m 77 #[.val (.int x0), .val (.int (31 : Int32))] [(.int ((x0.toUInt32 >>> ((1 : Int32) &&& 31).toUInt32).toInt32)), (.int (31 : Int32))]))
            refine Go.step (fun _ k => XS.isub X0.here hx rfl (hb hby d3_77) rfl k) ?_
            show Go _ _ _ _ (s₁.setTop (mkF m 78 #[.val (.int x0), .val (.int (31 : Int32))] [(.int ((31 : Int32) - ((x0.toUInt32 >>> ((1 : Int32) &&& 31).toUInt32).toInt32)))]))
            obtain ⟨t6, ht6⟩ : ∃ z, z = ((x0.toUInt32 >>> ((1 : Int32) &&& 31).toUInt32).toInt32) := ⟨_, rfl⟩
            rw [← ht6]
            have vt6 := own_shr x0 t6 1 1 2 (by decide) (by decide) rfl (by omega) ht6
            have st6 := c_isub (31 : Int32) t6
            rw [show ((31 : Int32)).toInt = 31 from rfl] at st6
            have lx := x0.toInt_lt
            have lt6 := ((31 : Int32) - t6).toInt_lt
            have mt6 := ((31 : Int32) - t6).le_toInt
            have qt6 : NLZ x0 ((31 : Int32) - t6) := by
              by_cases hy : x0.toInt = 1
              · exact own_nlz x0 _ 31 (by decide) (by omega) (by omega) 1 2 rfl rfl (by omega) (by omega)
              · exact own_nlz x0 _ 30 (by decide) (by omega) (by omega) 2 4 rfl rfl (by omega) (by omega)
            exact leafI X0 hx hret hlk (hb hby d3_78) ⟨⟨_, rfl, qt6⟩, e0, rfl⟩ (by decide) (by decide)
          · have nhc5 := hc5
            rw [own_lt, (show (4 : Int32).toInt = 4 from rfl)] at nhc5
            refine Go.step (fun _ k => XS.icmpNo X0.here hx rfl (hb hby d3_63) rfl (flt hc5).1 k) ?_
            show Go _ _ _ _ (s₁.setTop (mkF m 66 #[.val (.int x0), .val (.int (31 : Int32))] []))
            refine Go.step (fun _ k => XS.iinc X0.here hx rfl (hb hby d3_66) rfl (l' := #[.val (.int x0), .val (.int ((31 : Int32) + (-2 : Int32)))]) rfl k) ?_
            show Go _ _ _ _ (s₁.setTop (mkF m 69 #[.val (.int x0), .val (.int ((31 : Int32) + (-2 : Int32)))] []))
            refine Go.step (fun _ k => XS.iloadN X0.here hx rfl (hb hby d3_69) rfl k) ?_
            show Go _ _ _ _ (s₁.setTop (mkF m 70 #[.val (.int x0), .val (.int ((31 : Int32) + (-2 : Int32)))] [(.int x0)]))
            refine Go.step (fun _ k => XS.iconst X0.here hx rfl (hb hby d3_70) k) ?_
            show Go _ _ _ _ (s₁.setTop (mkF m 71 #[.val (.int x0), .val (.int ((31 : Int32) + (-2 : Int32)))] [(.int (2 : Int32)), (.int x0)]))
            refine Go.step (fun _ k => XS.iushr X0.here hx rfl (hb hby d3_71) rfl k) ?_
            show Go _ _ _ _ (s₁.setTop (mkF m 72 #[.val (.int x0), .val (.int ((31 : Int32) + (-2 : Int32)))] [(.int ((x0.toUInt32 >>> ((2 : Int32) &&& 31).toUInt32).toInt32))]))
            refine Go.step (fun _ k => XS.istoreN X0.here hx rfl (hb hby d3_72) rfl (l' := #[.val (.int ((x0.toUInt32 >>> ((2 : Int32) &&& 31).toUInt32).toInt32)), .val (.int ((31 : Int32) + (-2 : Int32)))]) rfl k) ?_
            show Go _ _ _ _ (s₁.setTop (mkF m 73 #[.val (.int ((x0.toUInt32 >>> ((2 : Int32) &&& 31).toUInt32).toInt32)), .val (.int ((31 : Int32) + (-2 : Int32)))] []))
            obtain ⟨y7, hy7⟩ : ∃ z, z = ((x0.toUInt32 >>> ((2 : Int32) &&& 31).toUInt32).toInt32) := ⟨_, rfl⟩
            rw [← hy7]
            have vy7 := own_shr x0 y7 2 2 4 (by decide) (by decide) rfl (by omega) hy7
            show Go _ _ _ _ (s₁.setTop (mkF m 73 #[.val (.int y7), .val (.int ((31 : Int32) + (-2 : Int32)))] []))
            refine Go.step (fun _ k => XS.iloadN X0.here hx rfl (hb hby d3_73) rfl k) ?_
            show Go _ _ _ _ (s₁.setTop (mkF m 74 #[.val (.int y7), .val (.int ((31 : Int32) + (-2 : Int32)))] [(.int ((31 : Int32) + (-2 : Int32)))]))
            refine Go.step (fun _ k => XS.iloadN X0.here hx rfl (hb hby d3_74) rfl k) ?_
            show Go _ _ _ _ (s₁.setTop (mkF m 75 #[.val (.int y7), .val (.int ((31 : Int32) + (-2 : Int32)))] [(.int y7), (.int ((31 : Int32) + (-2 : Int32)))]))
            refine Go.step (fun _ k => XS.iconst X0.here hx rfl (hb hby d3_75) k) ?_
            show Go _ _ _ _ (s₁.setTop (mkF m 76 #[.val (.int y7), .val (.int ((31 : Int32) + (-2 : Int32)))] [(.int (1 : Int32)), (.int y7), (.int ((31 : Int32) + (-2 : Int32)))]))
            refine Go.step (fun _ k => XS.iushr X0.here hx rfl (hb hby d3_76) rfl k) ?_
            show Go _ _ _ _ (s₁.setTop (mkF m 77 #[.val (.int y7), .val (.int ((31 : Int32) + (-2 : Int32)))] [(.int ((y7.toUInt32 >>> ((1 : Int32) &&& 31).toUInt32).toInt32)), (.int ((31 : Int32) + (-2 : Int32)))]))
            refine Go.step (fun _ k => XS.isub X0.here hx rfl (hb hby d3_77) rfl k) ?_
            show Go _ _ _ _ (s₁.setTop (mkF m 78 #[.val (.int y7), .val (.int ((31 : Int32) + (-2 : Int32)))] [(.int (((31 : Int32) + (-2 : Int32)) - ((y7.toUInt32 >>> ((1 : Int32) &&& 31).toUInt32).toInt32)))]))
            obtain ⟨t8, ht8⟩ : ∃ z, z = ((y7.toUInt32 >>> ((1 : Int32) &&& 31).toUInt32).toInt32) := ⟨_, rfl⟩
            rw [← ht8]
            have vt8 := own_shr y7 t8 1 1 2 (by decide) (by decide) rfl (by omega) ht8
            have st8 := c_isub ((31 : Int32) + (-2 : Int32)) t8
            rw [show (((31 : Int32) + (-2 : Int32))).toInt = 29 from rfl] at st8
            have lx := x0.toInt_lt
            have lt8 := (((31 : Int32) + (-2 : Int32)) - t8).toInt_lt
            have mt8 := (((31 : Int32) + (-2 : Int32)) - t8).le_toInt
            have qt8 : NLZ x0 (((31 : Int32) + (-2 : Int32)) - t8) := by
              by_cases hy : y7.toInt = 1
              · exact own_nlz x0 _ 29 (by decide) (by omega) (by omega) 4 8 rfl rfl (by omega) (by omega)
              · exact own_nlz x0 _ 28 (by decide) (by omega) (by omega) 8 16 rfl rfl (by omega) (by omega)
            exact leafI X0 hx hret hlk (hb hby d3_78) ⟨⟨_, rfl, qt8⟩, e0, rfl⟩ (by decide) (by decide)
        · have nhc4 := hc4
          rw [own_lt, (show (16 : Int32).toInt = 16 from rfl)] at nhc4
          refine Go.step (fun _ k => XS.icmpNo X0.here hx rfl (hb hby d3_51) rfl (flt hc4).1 k) ?_
          show Go _ _ _ _ (s₁.setTop (mkF m 54 #[.val (.int x0), .val (.int (31 : Int32))] []))
          refine Go.step (fun _ k => XS.iinc X0.here hx rfl (hb hby d3_54) rfl (l' := #[.val (.int x0), .val (.int ((31 : Int32) + (-4 : Int32)))]) rfl k) ?_
          show Go _ _ _ _ (s₁.setTop (mkF m 57 #[.val (.int x0), .val (.int ((31 : Int32) + (-4 : Int32)))] []))
          refine Go.step (fun _ k => XS.iloadN X0.here hx rfl (hb hby d3_57) rfl k) ?_
          show Go _ _ _ _ (s₁.setTop (mkF m 58 #[.val (.int x0), .val (.int ((31 : Int32) + (-4 : Int32)))] [(.int x0)]))
          refine Go.step (fun _ k => XS.iconst X0.here hx rfl (hb hby d3_58) k) ?_
          show Go _ _ _ _ (s₁.setTop (mkF m 59 #[.val (.int x0), .val (.int ((31 : Int32) + (-4 : Int32)))] [(.int (4 : Int32)), (.int x0)]))
          refine Go.step (fun _ k => XS.iushr X0.here hx rfl (hb hby d3_59) rfl k) ?_
          show Go _ _ _ _ (s₁.setTop (mkF m 60 #[.val (.int x0), .val (.int ((31 : Int32) + (-4 : Int32)))] [(.int ((x0.toUInt32 >>> ((4 : Int32) &&& 31).toUInt32).toInt32))]))
          refine Go.step (fun _ k => XS.istoreN X0.here hx rfl (hb hby d3_60) rfl (l' := #[.val (.int ((x0.toUInt32 >>> ((4 : Int32) &&& 31).toUInt32).toInt32)), .val (.int ((31 : Int32) + (-4 : Int32)))]) rfl k) ?_
          show Go _ _ _ _ (s₁.setTop (mkF m 61 #[.val (.int ((x0.toUInt32 >>> ((4 : Int32) &&& 31).toUInt32).toInt32)), .val (.int ((31 : Int32) + (-4 : Int32)))] []))
          obtain ⟨y9, hy9⟩ : ∃ z, z = ((x0.toUInt32 >>> ((4 : Int32) &&& 31).toUInt32).toInt32) := ⟨_, rfl⟩
          rw [← hy9]
          have vy9 := own_shr x0 y9 4 4 16 (by decide) (by decide) rfl (by omega) hy9
          show Go _ _ _ _ (s₁.setTop (mkF m 61 #[.val (.int y9), .val (.int ((31 : Int32) + (-4 : Int32)))] []))
          refine Go.step (fun _ k => XS.iloadN X0.here hx rfl (hb hby d3_61) rfl k) ?_
          show Go _ _ _ _ (s₁.setTop (mkF m 62 #[.val (.int y9), .val (.int ((31 : Int32) + (-4 : Int32)))] [(.int y9)]))
          refine Go.step (fun _ k => XS.iconst X0.here hx rfl (hb hby d3_62) k) ?_
          show Go _ _ _ _ (s₁.setTop (mkF m 63 #[.val (.int y9), .val (.int ((31 : Int32) + (-4 : Int32)))] [(.int (4 : Int32)), (.int y9)]))
          by_cases hc10 : y9 < (4 : Int32)
          · have nhc10 := hc10
            rw [own_lt, (show (4 : Int32).toInt = 4 from rfl)] at nhc10
            refine Go.step (fun _ k => XS.icmpYes X0.here hx rfl (pc0 := 63) (pc' := 73) rfl (hb hby d3_63) rfl (tlt hc10).1 (by decide) (by decide) k) ?_
            show Go _ _ _ _ (s₁.setTop (mkF m 73 #[.val (.int y9), .val (.int ((31 : Int32) + (-4 : Int32)))] []))
            refine Go.step (fun _ k => XS.iloadN X0.here hx rfl (hb hby d3_73) rfl k) ?_
            show Go _ _ _ _ (s₁.setTop (mkF m 74 #[.val (.int y9), .val (.int ((31 : Int32) + (-4 : Int32)))] [(.int ((31 : Int32) + (-4 : Int32)))]))
            refine Go.step (fun _ k => XS.iloadN X0.here hx rfl (hb hby d3_74) rfl k) ?_
            show Go _ _ _ _ (s₁.setTop (mkF m 75 #[.val (.int y9), .val (.int ((31 : Int32) + (-4 : Int32)))] [(.int y9), (.int ((31 : Int32) + (-4 : Int32)))]))
            refine Go.step (fun _ k => XS.iconst X0.here hx rfl (hb hby d3_75) k) ?_
            show Go _ _ _ _ (s₁.setTop (mkF m 76 #[.val (.int y9), .val (.int ((31 : Int32) + (-4 : Int32)))] [(.int (1 : Int32)), (.int y9), (.int ((31 : Int32) + (-4 : Int32)))]))
            refine Go.step (fun _ k => XS.iushr X0.here hx rfl (hb hby d3_76) rfl k) ?_
            show Go _ _ _ _ (s₁.setTop (mkF m 77 #[.val (.int y9), .val (.int ((31 : Int32) + (-4 : Int32)))] [(.int ((y9.toUInt32 >>> ((1 : Int32) &&& 31).toUInt32).toInt32)), (.int ((31 : Int32) + (-4 : Int32)))]))
            refine Go.step (fun _ k => XS.isub X0.here hx rfl (hb hby d3_77) rfl k) ?_
            show Go _ _ _ _ (s₁.setTop (mkF m 78 #[.val (.int y9), .val (.int ((31 : Int32) + (-4 : Int32)))] [(.int (((31 : Int32) + (-4 : Int32)) - ((y9.toUInt32 >>> ((1 : Int32) &&& 31).toUInt32).toInt32)))]))
            obtain ⟨t11, ht11⟩ : ∃ z, z = ((y9.toUInt32 >>> ((1 : Int32) &&& 31).toUInt32).toInt32) := ⟨_, rfl⟩
            rw [← ht11]
            have vt11 := own_shr y9 t11 1 1 2 (by decide) (by decide) rfl (by omega) ht11
            have st11 := c_isub ((31 : Int32) + (-4 : Int32)) t11
            rw [show (((31 : Int32) + (-4 : Int32))).toInt = 27 from rfl] at st11
            have lx := x0.toInt_lt
            have lt11 := (((31 : Int32) + (-4 : Int32)) - t11).toInt_lt
            have mt11 := (((31 : Int32) + (-4 : Int32)) - t11).le_toInt
            have qt11 : NLZ x0 (((31 : Int32) + (-4 : Int32)) - t11) := by
              by_cases hy : y9.toInt = 1
              · exact own_nlz x0 _ 27 (by decide) (by omega) (by omega) 16 32 rfl rfl (by omega) (by omega)
              · exact own_nlz x0 _ 26 (by decide) (by omega) (by omega) 32 64 rfl rfl (by omega) (by omega)
            exact leafI X0 hx hret hlk (hb hby d3_78) ⟨⟨_, rfl, qt11⟩, e0, rfl⟩ (by decide) (by decide)
          · have nhc10 := hc10
            rw [own_lt, (show (4 : Int32).toInt = 4 from rfl)] at nhc10
            refine Go.step (fun _ k => XS.icmpNo X0.here hx rfl (hb hby d3_63) rfl (flt hc10).1 k) ?_
            show Go _ _ _ _ (s₁.setTop (mkF m 66 #[.val (.int y9), .val (.int ((31 : Int32) + (-4 : Int32)))] []))
            refine Go.step (fun _ k => XS.iinc X0.here hx rfl (hb hby d3_66) rfl (l' := #[.val (.int y9), .val (.int (((31 : Int32) + (-4 : Int32)) + (-2 : Int32)))]) rfl k) ?_
            show Go _ _ _ _ (s₁.setTop (mkF m 69 #[.val (.int y9), .val (.int (((31 : Int32) + (-4 : Int32)) + (-2 : Int32)))] []))
            refine Go.step (fun _ k => XS.iloadN X0.here hx rfl (hb hby d3_69) rfl k) ?_
            show Go _ _ _ _ (s₁.setTop (mkF m 70 #[.val (.int y9), .val (.int (((31 : Int32) + (-4 : Int32)) + (-2 : Int32)))] [(.int y9)]))
            refine Go.step (fun _ k => XS.iconst X0.here hx rfl (hb hby d3_70) k) ?_
            show Go _ _ _ _ (s₁.setTop (mkF m 71 #[.val (.int y9), .val (.int (((31 : Int32) + (-4 : Int32)) + (-2 : Int32)))] [(.int (2 : Int32)), (.int y9)]))
            refine Go.step (fun _ k => XS.iushr X0.here hx rfl (hb hby d3_71) rfl k) ?_
            show Go _ _ _ _ (s₁.setTop (mkF m 72 #[.val (.int y9), .val (.int (((31 : Int32) + (-4 : Int32)) + (-2 : Int32)))] [(.int ((y9.toUInt32 >>> ((2 : Int32) &&& 31).toUInt32).toInt32))]))
            refine Go.step (fun _ k => XS.istoreN X0.here hx rfl (hb hby d3_72) rfl (l' := #[.val (.int ((y9.toUInt32 >>> ((2 : Int32) &&& 31).toUInt32).toInt32)), .val (.int (((31 : Int32) + (-4 : Int32)) + (-2 : Int32)))]) rfl k) ?_
            show Go _ _ _ _ (s₁.setTop (mkF m 73 #[.val (.int ((y9.toUInt32 >>> ((2 : Int32) &&& 31).toUInt32).toInt32)), .val (.int (((31 : Int32) + (-4 : Int32)) + (-2 : Int32)))] []))
            obtain ⟨y12, hy12⟩ : ∃ z, z = ((y9.toUInt32 >>> ((2 : Int32) &&& 31).toUInt32).toInt32) := ⟨_, rfl⟩
            rw [← hy12]
            have vy12 := own_shr y9 y12 2 2 4 (by decide) (by decide) rfl (by omega) hy12
            show Go _ _ _ _ (s₁.setTop (mkF m 73 #[.val (.int y12), .val (.int (((31 : Int32) + (-4 : Int32)) + (-2 : Int32)))] []))
            refine Go.step (fun _ k => XS.iloadN X0.here hx rfl (hb hby d3_73) rfl k) ?_
            show Go _ _ _ _ (s₁.setTop (mkF m 74 #[.val (.int y12), .val (.int (((31 : Int32) + (-4 : Int32)) + (-2 : Int32)))] [(.int (((31 : Int32) + (-4 : Int32)) + (-2 : Int32)))]))
            refine Go.step (fun _ k => XS.iloadN X0.here hx rfl (hb hby d3_74) rfl k) ?_
            show Go _ _ _ _ (s₁.setTop (mkF m 75 #[.val (.int y12), .val (.int (((31 : Int32) + (-4 : Int32)) + (-2 : Int32)))] [(.int y12), (.int (((31 : Int32) + (-4 : Int32)) + (-2 : Int32)))]))
            refine Go.step (fun _ k => XS.iconst X0.here hx rfl (hb hby d3_75) k) ?_
            show Go _ _ _ _ (s₁.setTop (mkF m 76 #[.val (.int y12), .val (.int (((31 : Int32) + (-4 : Int32)) + (-2 : Int32)))] [(.int (1 : Int32)), (.int y12), (.int (((31 : Int32) + (-4 : Int32)) + (-2 : Int32)))]))
            refine Go.step (fun _ k => XS.iushr X0.here hx rfl (hb hby d3_76) rfl k) ?_
            show Go _ _ _ _ (s₁.setTop (mkF m 77 #[.val (.int y12), .val (.int (((31 : Int32) + (-4 : Int32)) + (-2 : Int32)))] [(.int ((y12.toUInt32 >>> ((1 : Int32) &&& 31).toUInt32).toInt32)), (.int (((31 : Int32) + (-4 : Int32)) + (-2 : Int32)))]))
            refine Go.step (fun _ k => XS.isub X0.here hx rfl (hb hby d3_77) rfl k) ?_
            show Go _ _ _ _ (s₁.setTop (mkF m 78 #[.val (.int y12), .val (.int (((31 : Int32) + (-4 : Int32)) + (-2 : Int32)))] [(.int ((((31 : Int32) + (-4 : Int32)) + (-2 : Int32)) - ((y12.toUInt32 >>> ((1 : Int32) &&& 31).toUInt32).toInt32)))]))
            obtain ⟨t13, ht13⟩ : ∃ z, z = ((y12.toUInt32 >>> ((1 : Int32) &&& 31).toUInt32).toInt32) := ⟨_, rfl⟩
            rw [← ht13]
            have vt13 := own_shr y12 t13 1 1 2 (by decide) (by decide) rfl (by omega) ht13
            have st13 := c_isub (((31 : Int32) + (-4 : Int32)) + (-2 : Int32)) t13
            rw [show ((((31 : Int32) + (-4 : Int32)) + (-2 : Int32))).toInt = 25 from rfl] at st13
            have lx := x0.toInt_lt
            have lt13 := ((((31 : Int32) + (-4 : Int32)) + (-2 : Int32)) - t13).toInt_lt
            have mt13 := ((((31 : Int32) + (-4 : Int32)) + (-2 : Int32)) - t13).le_toInt
            have qt13 : NLZ x0 ((((31 : Int32) + (-4 : Int32)) + (-2 : Int32)) - t13) := by
              by_cases hy : y12.toInt = 1
              · exact own_nlz x0 _ 25 (by decide) (by omega) (by omega) 64 128 rfl rfl (by omega) (by omega)
              · exact own_nlz x0 _ 24 (by decide) (by omega) (by omega) 128 256 rfl rfl (by omega) (by omega)
            exact leafI X0 hx hret hlk (hb hby d3_78) ⟨⟨_, rfl, qt13⟩, e0, rfl⟩ (by decide) (by decide)
      · have nhc3 := hc3
        rw [own_lt, (show (256 : Int32).toInt = 256 from rfl)] at nhc3
        refine Go.step (fun _ k => XS.icmpNo X0.here hx rfl (hb hby d3_37) rfl (flt hc3).1 k) ?_
        show Go _ _ _ _ (s₁.setTop (mkF m 40 #[.val (.int x0), .val (.int (31 : Int32))] []))
        refine Go.step (fun _ k => XS.iinc X0.here hx rfl (hb hby d3_40) rfl (l' := #[.val (.int x0), .val (.int ((31 : Int32) + (-8 : Int32)))]) rfl k) ?_
        show Go _ _ _ _ (s₁.setTop (mkF m 43 #[.val (.int x0), .val (.int ((31 : Int32) + (-8 : Int32)))] []))
        refine Go.step (fun _ k => XS.iloadN X0.here hx rfl (hb hby d3_43) rfl k) ?_
        show Go _ _ _ _ (s₁.setTop (mkF m 44 #[.val (.int x0), .val (.int ((31 : Int32) + (-8 : Int32)))] [(.int x0)]))
        refine Go.step (fun _ k => XS.bipush X0.here hx rfl (hb hby d3_44) k) ?_
        show Go _ _ _ _ (s₁.setTop (mkF m 46 #[.val (.int x0), .val (.int ((31 : Int32) + (-8 : Int32)))] [(.int (8 : Int32)), (.int x0)]))
        refine Go.step (fun _ k => XS.iushr X0.here hx rfl (hb hby d3_46) rfl k) ?_
        show Go _ _ _ _ (s₁.setTop (mkF m 47 #[.val (.int x0), .val (.int ((31 : Int32) + (-8 : Int32)))] [(.int ((x0.toUInt32 >>> ((8 : Int32) &&& 31).toUInt32).toInt32))]))
        refine Go.step (fun _ k => XS.istoreN X0.here hx rfl (hb hby d3_47) rfl (l' := #[.val (.int ((x0.toUInt32 >>> ((8 : Int32) &&& 31).toUInt32).toInt32)), .val (.int ((31 : Int32) + (-8 : Int32)))]) rfl k) ?_
        show Go _ _ _ _ (s₁.setTop (mkF m 48 #[.val (.int ((x0.toUInt32 >>> ((8 : Int32) &&& 31).toUInt32).toInt32)), .val (.int ((31 : Int32) + (-8 : Int32)))] []))
        obtain ⟨y14, hy14⟩ : ∃ z, z = ((x0.toUInt32 >>> ((8 : Int32) &&& 31).toUInt32).toInt32) := ⟨_, rfl⟩
        rw [← hy14]
        have vy14 := own_shr x0 y14 8 8 256 (by decide) (by decide) rfl (by omega) hy14
        show Go _ _ _ _ (s₁.setTop (mkF m 48 #[.val (.int y14), .val (.int ((31 : Int32) + (-8 : Int32)))] []))
        refine Go.step (fun _ k => XS.iloadN X0.here hx rfl (hb hby d3_48) rfl k) ?_
        show Go _ _ _ _ (s₁.setTop (mkF m 49 #[.val (.int y14), .val (.int ((31 : Int32) + (-8 : Int32)))] [(.int y14)]))
        refine Go.step (fun _ k => XS.bipush X0.here hx rfl (hb hby d3_49) k) ?_
        show Go _ _ _ _ (s₁.setTop (mkF m 51 #[.val (.int y14), .val (.int ((31 : Int32) + (-8 : Int32)))] [(.int (16 : Int32)), (.int y14)]))
        by_cases hc15 : y14 < (16 : Int32)
        · have nhc15 := hc15
          rw [own_lt, (show (16 : Int32).toInt = 16 from rfl)] at nhc15
          refine Go.step (fun _ k => XS.icmpYes X0.here hx rfl (pc0 := 51) (pc' := 61) rfl (hb hby d3_51) rfl (tlt hc15).1 (by decide) (by decide) k) ?_
          show Go _ _ _ _ (s₁.setTop (mkF m 61 #[.val (.int y14), .val (.int ((31 : Int32) + (-8 : Int32)))] []))
          refine Go.step (fun _ k => XS.iloadN X0.here hx rfl (hb hby d3_61) rfl k) ?_
          show Go _ _ _ _ (s₁.setTop (mkF m 62 #[.val (.int y14), .val (.int ((31 : Int32) + (-8 : Int32)))] [(.int y14)]))
          refine Go.step (fun _ k => XS.iconst X0.here hx rfl (hb hby d3_62) k) ?_
          show Go _ _ _ _ (s₁.setTop (mkF m 63 #[.val (.int y14), .val (.int ((31 : Int32) + (-8 : Int32)))] [(.int (4 : Int32)), (.int y14)]))
          by_cases hc16 : y14 < (4 : Int32)
          · have nhc16 := hc16
            rw [own_lt, (show (4 : Int32).toInt = 4 from rfl)] at nhc16
            refine Go.step (fun _ k => XS.icmpYes X0.here hx rfl (pc0 := 63) (pc' := 73) rfl (hb hby d3_63) rfl (tlt hc16).1 (by decide) (by decide) k) ?_
            show Go _ _ _ _ (s₁.setTop (mkF m 73 #[.val (.int y14), .val (.int ((31 : Int32) + (-8 : Int32)))] []))
            refine Go.step (fun _ k => XS.iloadN X0.here hx rfl (hb hby d3_73) rfl k) ?_
            show Go _ _ _ _ (s₁.setTop (mkF m 74 #[.val (.int y14), .val (.int ((31 : Int32) + (-8 : Int32)))] [(.int ((31 : Int32) + (-8 : Int32)))]))
            refine Go.step (fun _ k => XS.iloadN X0.here hx rfl (hb hby d3_74) rfl k) ?_
            show Go _ _ _ _ (s₁.setTop (mkF m 75 #[.val (.int y14), .val (.int ((31 : Int32) + (-8 : Int32)))] [(.int y14), (.int ((31 : Int32) + (-8 : Int32)))]))
            refine Go.step (fun _ k => XS.iconst X0.here hx rfl (hb hby d3_75) k) ?_
            show Go _ _ _ _ (s₁.setTop (mkF m 76 #[.val (.int y14), .val (.int ((31 : Int32) + (-8 : Int32)))] [(.int (1 : Int32)), (.int y14), (.int ((31 : Int32) + (-8 : Int32)))]))
            refine Go.step (fun _ k => XS.iushr X0.here hx rfl (hb hby d3_76) rfl k) ?_
            show Go _ _ _ _ (s₁.setTop (mkF m 77 #[.val (.int y14), .val (.int ((31 : Int32) + (-8 : Int32)))] [(.int ((y14.toUInt32 >>> ((1 : Int32) &&& 31).toUInt32).toInt32)), (.int ((31 : Int32) + (-8 : Int32)))]))
            refine Go.step (fun _ k => XS.isub X0.here hx rfl (hb hby d3_77) rfl k) ?_
            show Go _ _ _ _ (s₁.setTop (mkF m 78 #[.val (.int y14), .val (.int ((31 : Int32) + (-8 : Int32)))] [(.int (((31 : Int32) + (-8 : Int32)) - ((y14.toUInt32 >>> ((1 : Int32) &&& 31).toUInt32).toInt32)))]))
            obtain ⟨t17, ht17⟩ : ∃ z, z = ((y14.toUInt32 >>> ((1 : Int32) &&& 31).toUInt32).toInt32) := ⟨_, rfl⟩
            rw [← ht17]
            have vt17 := own_shr y14 t17 1 1 2 (by decide) (by decide) rfl (by omega) ht17
            have st17 := c_isub ((31 : Int32) + (-8 : Int32)) t17
            rw [show (((31 : Int32) + (-8 : Int32))).toInt = 23 from rfl] at st17
            have lx := x0.toInt_lt
            have lt17 := (((31 : Int32) + (-8 : Int32)) - t17).toInt_lt
            have mt17 := (((31 : Int32) + (-8 : Int32)) - t17).le_toInt
            have qt17 : NLZ x0 (((31 : Int32) + (-8 : Int32)) - t17) := by
              by_cases hy : y14.toInt = 1
              · exact own_nlz x0 _ 23 (by decide) (by omega) (by omega) 256 512 rfl rfl (by omega) (by omega)
              · exact own_nlz x0 _ 22 (by decide) (by omega) (by omega) 512 1024 rfl rfl (by omega) (by omega)
            exact leafI X0 hx hret hlk (hb hby d3_78) ⟨⟨_, rfl, qt17⟩, e0, rfl⟩ (by decide) (by decide)
          · have nhc16 := hc16
            rw [own_lt, (show (4 : Int32).toInt = 4 from rfl)] at nhc16
            refine Go.step (fun _ k => XS.icmpNo X0.here hx rfl (hb hby d3_63) rfl (flt hc16).1 k) ?_
            show Go _ _ _ _ (s₁.setTop (mkF m 66 #[.val (.int y14), .val (.int ((31 : Int32) + (-8 : Int32)))] []))
            refine Go.step (fun _ k => XS.iinc X0.here hx rfl (hb hby d3_66) rfl (l' := #[.val (.int y14), .val (.int (((31 : Int32) + (-8 : Int32)) + (-2 : Int32)))]) rfl k) ?_
            show Go _ _ _ _ (s₁.setTop (mkF m 69 #[.val (.int y14), .val (.int (((31 : Int32) + (-8 : Int32)) + (-2 : Int32)))] []))
            refine Go.step (fun _ k => XS.iloadN X0.here hx rfl (hb hby d3_69) rfl k) ?_
            show Go _ _ _ _ (s₁.setTop (mkF m 70 #[.val (.int y14), .val (.int (((31 : Int32) + (-8 : Int32)) + (-2 : Int32)))] [(.int y14)]))
            refine Go.step (fun _ k => XS.iconst X0.here hx rfl (hb hby d3_70) k) ?_
            show Go _ _ _ _ (s₁.setTop (mkF m 71 #[.val (.int y14), .val (.int (((31 : Int32) + (-8 : Int32)) + (-2 : Int32)))] [(.int (2 : Int32)), (.int y14)]))
            refine Go.step (fun _ k => XS.iushr X0.here hx rfl (hb hby d3_71) rfl k) ?_
            show Go _ _ _ _ (s₁.setTop (mkF m 72 #[.val (.int y14), .val (.int (((31 : Int32) + (-8 : Int32)) + (-2 : Int32)))] [(.int ((y14.toUInt32 >>> ((2 : Int32) &&& 31).toUInt32).toInt32))]))
            refine Go.step (fun _ k => XS.istoreN X0.here hx rfl (hb hby d3_72) rfl (l' := #[.val (.int ((y14.toUInt32 >>> ((2 : Int32) &&& 31).toUInt32).toInt32)), .val (.int (((31 : Int32) + (-8 : Int32)) + (-2 : Int32)))]) rfl k) ?_
            show Go _ _ _ _ (s₁.setTop (mkF m 73 #[.val (.int ((y14.toUInt32 >>> ((2 : Int32) &&& 31).toUInt32).toInt32)), .val (.int (((31 : Int32) + (-8 : Int32)) + (-2 : Int32)))] []))
            obtain ⟨y18, hy18⟩ : ∃ z, z = ((y14.toUInt32 >>> ((2 : Int32) &&& 31).toUInt32).toInt32) := ⟨_, rfl⟩
            rw [← hy18]
            have vy18 := own_shr y14 y18 2 2 4 (by decide) (by decide) rfl (by omega) hy18
            show Go _ _ _ _ (s₁.setTop (mkF m 73 #[.val (.int y18), .val (.int (((31 : Int32) + (-8 : Int32)) + (-2 : Int32)))] []))
            refine Go.step (fun _ k => XS.iloadN X0.here hx rfl (hb hby d3_73) rfl k) ?_
            show Go _ _ _ _ (s₁.setTop (mkF m 74 #[.val (.int y18), .val (.int (((31 : Int32) + (-8 : Int32)) + (-2 : Int32)))] [(.int (((31 : Int32) + (-8 : Int32)) + (-2 : Int32)))]))
            refine Go.step (fun _ k => XS.iloadN X0.here hx rfl (hb hby d3_74) rfl k) ?_
            show Go _ _ _ _ (s₁.setTop (mkF m 75 #[.val (.int y18), .val (.int (((31 : Int32) + (-8 : Int32)) + (-2 : Int32)))] [(.int y18), (.int (((31 : Int32) + (-8 : Int32)) + (-2 : Int32)))]))
            refine Go.step (fun _ k => XS.iconst X0.here hx rfl (hb hby d3_75) k) ?_
            show Go _ _ _ _ (s₁.setTop (mkF m 76 #[.val (.int y18), .val (.int (((31 : Int32) + (-8 : Int32)) + (-2 : Int32)))] [(.int (1 : Int32)), (.int y18), (.int (((31 : Int32) + (-8 : Int32)) + (-2 : Int32)))]))
            refine Go.step (fun _ k => XS.iushr X0.here hx rfl (hb hby d3_76) rfl k) ?_
            show Go _ _ _ _ (s₁.setTop (mkF m 77 #[.val (.int y18), .val (.int (((31 : Int32) + (-8 : Int32)) + (-2 : Int32)))] [(.int ((y18.toUInt32 >>> ((1 : Int32) &&& 31).toUInt32).toInt32)), (.int (((31 : Int32) + (-8 : Int32)) + (-2 : Int32)))]))
            refine Go.step (fun _ k => XS.isub X0.here hx rfl (hb hby d3_77) rfl k) ?_
            show Go _ _ _ _ (s₁.setTop (mkF m 78 #[.val (.int y18), .val (.int (((31 : Int32) + (-8 : Int32)) + (-2 : Int32)))] [(.int ((((31 : Int32) + (-8 : Int32)) + (-2 : Int32)) - ((y18.toUInt32 >>> ((1 : Int32) &&& 31).toUInt32).toInt32)))]))
            obtain ⟨t19, ht19⟩ : ∃ z, z = ((y18.toUInt32 >>> ((1 : Int32) &&& 31).toUInt32).toInt32) := ⟨_, rfl⟩
            rw [← ht19]
            have vt19 := own_shr y18 t19 1 1 2 (by decide) (by decide) rfl (by omega) ht19
            have st19 := c_isub (((31 : Int32) + (-8 : Int32)) + (-2 : Int32)) t19
            rw [show ((((31 : Int32) + (-8 : Int32)) + (-2 : Int32))).toInt = 21 from rfl] at st19
            have lx := x0.toInt_lt
            have lt19 := ((((31 : Int32) + (-8 : Int32)) + (-2 : Int32)) - t19).toInt_lt
            have mt19 := ((((31 : Int32) + (-8 : Int32)) + (-2 : Int32)) - t19).le_toInt
            have qt19 : NLZ x0 ((((31 : Int32) + (-8 : Int32)) + (-2 : Int32)) - t19) := by
              by_cases hy : y18.toInt = 1
              · exact own_nlz x0 _ 21 (by decide) (by omega) (by omega) 1024 2048 rfl rfl (by omega) (by omega)
              · exact own_nlz x0 _ 20 (by decide) (by omega) (by omega) 2048 4096 rfl rfl (by omega) (by omega)
            exact leafI X0 hx hret hlk (hb hby d3_78) ⟨⟨_, rfl, qt19⟩, e0, rfl⟩ (by decide) (by decide)
        · have nhc15 := hc15
          rw [own_lt, (show (16 : Int32).toInt = 16 from rfl)] at nhc15
          refine Go.step (fun _ k => XS.icmpNo X0.here hx rfl (hb hby d3_51) rfl (flt hc15).1 k) ?_
          show Go _ _ _ _ (s₁.setTop (mkF m 54 #[.val (.int y14), .val (.int ((31 : Int32) + (-8 : Int32)))] []))
          refine Go.step (fun _ k => XS.iinc X0.here hx rfl (hb hby d3_54) rfl (l' := #[.val (.int y14), .val (.int (((31 : Int32) + (-8 : Int32)) + (-4 : Int32)))]) rfl k) ?_
          show Go _ _ _ _ (s₁.setTop (mkF m 57 #[.val (.int y14), .val (.int (((31 : Int32) + (-8 : Int32)) + (-4 : Int32)))] []))
          refine Go.step (fun _ k => XS.iloadN X0.here hx rfl (hb hby d3_57) rfl k) ?_
          show Go _ _ _ _ (s₁.setTop (mkF m 58 #[.val (.int y14), .val (.int (((31 : Int32) + (-8 : Int32)) + (-4 : Int32)))] [(.int y14)]))
          refine Go.step (fun _ k => XS.iconst X0.here hx rfl (hb hby d3_58) k) ?_
          show Go _ _ _ _ (s₁.setTop (mkF m 59 #[.val (.int y14), .val (.int (((31 : Int32) + (-8 : Int32)) + (-4 : Int32)))] [(.int (4 : Int32)), (.int y14)]))
          refine Go.step (fun _ k => XS.iushr X0.here hx rfl (hb hby d3_59) rfl k) ?_
          show Go _ _ _ _ (s₁.setTop (mkF m 60 #[.val (.int y14), .val (.int (((31 : Int32) + (-8 : Int32)) + (-4 : Int32)))] [(.int ((y14.toUInt32 >>> ((4 : Int32) &&& 31).toUInt32).toInt32))]))
          refine Go.step (fun _ k => XS.istoreN X0.here hx rfl (hb hby d3_60) rfl (l' := #[.val (.int ((y14.toUInt32 >>> ((4 : Int32) &&& 31).toUInt32).toInt32)), .val (.int (((31 : Int32) + (-8 : Int32)) + (-4 : Int32)))]) rfl k) ?_
          show Go _ _ _ _ (s₁.setTop (mkF m 61 #[.val (.int ((y14.toUInt32 >>> ((4 : Int32) &&& 31).toUInt32).toInt32)), .val (.int (((31 : Int32) + (-8 : Int32)) + (-4 : Int32)))] []))
          obtain ⟨y20, hy20⟩ : ∃ z, z = ((y14.toUInt32 >>> ((4 : Int32) &&& 31).toUInt32).toInt32) := ⟨_, rfl⟩
          rw [← hy20]
          have vy20 := own_shr y14 y20 4 4 16 (by decide) (by decide) rfl (by omega) hy20
          show Go _ _ _ _ (s₁.setTop (mkF m 61 #[.val (.int y20), .val (.int (((31 : Int32) + (-8 : Int32)) + (-4 : Int32)))] []))
          refine Go.step (fun _ k => XS.iloadN X0.here hx rfl (hb hby d3_61) rfl k) ?_
          show Go _ _ _ _ (s₁.setTop (mkF m 62 #[.val (.int y20), .val (.int (((31 : Int32) + (-8 : Int32)) + (-4 : Int32)))] [(.int y20)]))
          refine Go.step (fun _ k => XS.iconst X0.here hx rfl (hb hby d3_62) k) ?_
          show Go _ _ _ _ (s₁.setTop (mkF m 63 #[.val (.int y20), .val (.int (((31 : Int32) + (-8 : Int32)) + (-4 : Int32)))] [(.int (4 : Int32)), (.int y20)]))
          by_cases hc21 : y20 < (4 : Int32)
          · have nhc21 := hc21
            rw [own_lt, (show (4 : Int32).toInt = 4 from rfl)] at nhc21
            refine Go.step (fun _ k => XS.icmpYes X0.here hx rfl (pc0 := 63) (pc' := 73) rfl (hb hby d3_63) rfl (tlt hc21).1 (by decide) (by decide) k) ?_
            show Go _ _ _ _ (s₁.setTop (mkF m 73 #[.val (.int y20), .val (.int (((31 : Int32) + (-8 : Int32)) + (-4 : Int32)))] []))
            refine Go.step (fun _ k => XS.iloadN X0.here hx rfl (hb hby d3_73) rfl k) ?_
            show Go _ _ _ _ (s₁.setTop (mkF m 74 #[.val (.int y20), .val (.int (((31 : Int32) + (-8 : Int32)) + (-4 : Int32)))] [(.int (((31 : Int32) + (-8 : Int32)) + (-4 : Int32)))]))
            refine Go.step (fun _ k => XS.iloadN X0.here hx rfl (hb hby d3_74) rfl k) ?_
            show Go _ _ _ _ (s₁.setTop (mkF m 75 #[.val (.int y20), .val (.int (((31 : Int32) + (-8 : Int32)) + (-4 : Int32)))] [(.int y20), (.int (((31 : Int32) + (-8 : Int32)) + (-4 : Int32)))]))
            refine Go.step (fun _ k => XS.iconst X0.here hx rfl (hb hby d3_75) k) ?_
            show Go _ _ _ _ (s₁.setTop (mkF m 76 #[.val (.int y20), .val (.int (((31 : Int32) + (-8 : Int32)) + (-4 : Int32)))] [(.int (1 : Int32)), (.int y20), (.int (((31 : Int32) + (-8 : Int32)) + (-4 : Int32)))]))
            refine Go.step (fun _ k => XS.iushr X0.here hx rfl (hb hby d3_76) rfl k) ?_
            show Go _ _ _ _ (s₁.setTop (mkF m 77 #[.val (.int y20), .val (.int (((31 : Int32) + (-8 : Int32)) + (-4 : Int32)))] [(.int ((y20.toUInt32 >>> ((1 : Int32) &&& 31).toUInt32).toInt32)), (.int (((31 : Int32) + (-8 : Int32)) + (-4 : Int32)))]))
            refine Go.step (fun _ k => XS.isub X0.here hx rfl (hb hby d3_77) rfl k) ?_
            show Go _ _ _ _ (s₁.setTop (mkF m 78 #[.val (.int y20), .val (.int (((31 : Int32) + (-8 : Int32)) + (-4 : Int32)))] [(.int ((((31 : Int32) + (-8 : Int32)) + (-4 : Int32)) - ((y20.toUInt32 >>> ((1 : Int32) &&& 31).toUInt32).toInt32)))]))
            obtain ⟨t22, ht22⟩ : ∃ z, z = ((y20.toUInt32 >>> ((1 : Int32) &&& 31).toUInt32).toInt32) := ⟨_, rfl⟩
            rw [← ht22]
            have vt22 := own_shr y20 t22 1 1 2 (by decide) (by decide) rfl (by omega) ht22
            have st22 := c_isub (((31 : Int32) + (-8 : Int32)) + (-4 : Int32)) t22
            rw [show ((((31 : Int32) + (-8 : Int32)) + (-4 : Int32))).toInt = 19 from rfl] at st22
            have lx := x0.toInt_lt
            have lt22 := ((((31 : Int32) + (-8 : Int32)) + (-4 : Int32)) - t22).toInt_lt
            have mt22 := ((((31 : Int32) + (-8 : Int32)) + (-4 : Int32)) - t22).le_toInt
            have qt22 : NLZ x0 ((((31 : Int32) + (-8 : Int32)) + (-4 : Int32)) - t22) := by
              by_cases hy : y20.toInt = 1
              · exact own_nlz x0 _ 19 (by decide) (by omega) (by omega) 4096 8192 rfl rfl (by omega) (by omega)
              · exact own_nlz x0 _ 18 (by decide) (by omega) (by omega) 8192 16384 rfl rfl (by omega) (by omega)
            exact leafI X0 hx hret hlk (hb hby d3_78) ⟨⟨_, rfl, qt22⟩, e0, rfl⟩ (by decide) (by decide)
          · have nhc21 := hc21
            rw [own_lt, (show (4 : Int32).toInt = 4 from rfl)] at nhc21
            refine Go.step (fun _ k => XS.icmpNo X0.here hx rfl (hb hby d3_63) rfl (flt hc21).1 k) ?_
            show Go _ _ _ _ (s₁.setTop (mkF m 66 #[.val (.int y20), .val (.int (((31 : Int32) + (-8 : Int32)) + (-4 : Int32)))] []))
            refine Go.step (fun _ k => XS.iinc X0.here hx rfl (hb hby d3_66) rfl (l' := #[.val (.int y20), .val (.int ((((31 : Int32) + (-8 : Int32)) + (-4 : Int32)) + (-2 : Int32)))]) rfl k) ?_
            show Go _ _ _ _ (s₁.setTop (mkF m 69 #[.val (.int y20), .val (.int ((((31 : Int32) + (-8 : Int32)) + (-4 : Int32)) + (-2 : Int32)))] []))
            refine Go.step (fun _ k => XS.iloadN X0.here hx rfl (hb hby d3_69) rfl k) ?_
            show Go _ _ _ _ (s₁.setTop (mkF m 70 #[.val (.int y20), .val (.int ((((31 : Int32) + (-8 : Int32)) + (-4 : Int32)) + (-2 : Int32)))] [(.int y20)]))
            refine Go.step (fun _ k => XS.iconst X0.here hx rfl (hb hby d3_70) k) ?_
            show Go _ _ _ _ (s₁.setTop (mkF m 71 #[.val (.int y20), .val (.int ((((31 : Int32) + (-8 : Int32)) + (-4 : Int32)) + (-2 : Int32)))] [(.int (2 : Int32)), (.int y20)]))
            refine Go.step (fun _ k => XS.iushr X0.here hx rfl (hb hby d3_71) rfl k) ?_
            show Go _ _ _ _ (s₁.setTop (mkF m 72 #[.val (.int y20), .val (.int ((((31 : Int32) + (-8 : Int32)) + (-4 : Int32)) + (-2 : Int32)))] [(.int ((y20.toUInt32 >>> ((2 : Int32) &&& 31).toUInt32).toInt32))]))
            refine Go.step (fun _ k => XS.istoreN X0.here hx rfl (hb hby d3_72) rfl (l' := #[.val (.int ((y20.toUInt32 >>> ((2 : Int32) &&& 31).toUInt32).toInt32)), .val (.int ((((31 : Int32) + (-8 : Int32)) + (-4 : Int32)) + (-2 : Int32)))]) rfl k) ?_
            show Go _ _ _ _ (s₁.setTop (mkF m 73 #[.val (.int ((y20.toUInt32 >>> ((2 : Int32) &&& 31).toUInt32).toInt32)), .val (.int ((((31 : Int32) + (-8 : Int32)) + (-4 : Int32)) + (-2 : Int32)))] []))
            obtain ⟨y23, hy23⟩ : ∃ z, z = ((y20.toUInt32 >>> ((2 : Int32) &&& 31).toUInt32).toInt32) := ⟨_, rfl⟩
            rw [← hy23]
            have vy23 := own_shr y20 y23 2 2 4 (by decide) (by decide) rfl (by omega) hy23
            show Go _ _ _ _ (s₁.setTop (mkF m 73 #[.val (.int y23), .val (.int ((((31 : Int32) + (-8 : Int32)) + (-4 : Int32)) + (-2 : Int32)))] []))
            refine Go.step (fun _ k => XS.iloadN X0.here hx rfl (hb hby d3_73) rfl k) ?_
            show Go _ _ _ _ (s₁.setTop (mkF m 74 #[.val (.int y23), .val (.int ((((31 : Int32) + (-8 : Int32)) + (-4 : Int32)) + (-2 : Int32)))] [(.int ((((31 : Int32) + (-8 : Int32)) + (-4 : Int32)) + (-2 : Int32)))]))
            refine Go.step (fun _ k => XS.iloadN X0.here hx rfl (hb hby d3_74) rfl k) ?_
            show Go _ _ _ _ (s₁.setTop (mkF m 75 #[.val (.int y23), .val (.int ((((31 : Int32) + (-8 : Int32)) + (-4 : Int32)) + (-2 : Int32)))] [(.int y23), (.int ((((31 : Int32) + (-8 : Int32)) + (-4 : Int32)) + (-2 : Int32)))]))
            refine Go.step (fun _ k => XS.iconst X0.here hx rfl (hb hby d3_75) k) ?_
            show Go _ _ _ _ (s₁.setTop (mkF m 76 #[.val (.int y23), .val (.int ((((31 : Int32) + (-8 : Int32)) + (-4 : Int32)) + (-2 : Int32)))] [(.int (1 : Int32)), (.int y23), (.int ((((31 : Int32) + (-8 : Int32)) + (-4 : Int32)) + (-2 : Int32)))]))
            refine Go.step (fun _ k => XS.iushr X0.here hx rfl (hb hby d3_76) rfl k) ?_
            show Go _ _ _ _ (s₁.setTop (mkF m 77 #[.val (.int y23), .val (.int ((((31 : Int32) + (-8 : Int32)) + (-4 : Int32)) + (-2 : Int32)))] [(.int ((y23.toUInt32 >>> ((1 : Int32) &&& 31).toUInt32).toInt32)), (.int ((((31 : Int32) + (-8 : Int32)) + (-4 : Int32)) + (-2 : Int32)))]))
            refine Go.step (fun _ k => XS.isub X0.here hx rfl (hb hby d3_77) rfl k) ?_
            show Go _ _ _ _ (s₁.setTop (mkF m 78 #[.val (.int y23), .val (.int ((((31 : Int32) + (-8 : Int32)) + (-4 : Int32)) + (-2 : Int32)))] [(.int (((((31 : Int32) + (-8 : Int32)) + (-4 : Int32)) + (-2 : Int32)) - ((y23.toUInt32 >>> ((1 : Int32) &&& 31).toUInt32).toInt32)))]))
            obtain ⟨t24, ht24⟩ : ∃ z, z = ((y23.toUInt32 >>> ((1 : Int32) &&& 31).toUInt32).toInt32) := ⟨_, rfl⟩
            rw [← ht24]
            have vt24 := own_shr y23 t24 1 1 2 (by decide) (by decide) rfl (by omega) ht24
            have st24 := c_isub ((((31 : Int32) + (-8 : Int32)) + (-4 : Int32)) + (-2 : Int32)) t24
            rw [show (((((31 : Int32) + (-8 : Int32)) + (-4 : Int32)) + (-2 : Int32))).toInt = 17 from rfl] at st24
            have lx := x0.toInt_lt
            have lt24 := (((((31 : Int32) + (-8 : Int32)) + (-4 : Int32)) + (-2 : Int32)) - t24).toInt_lt
            have mt24 := (((((31 : Int32) + (-8 : Int32)) + (-4 : Int32)) + (-2 : Int32)) - t24).le_toInt
            have qt24 : NLZ x0 (((((31 : Int32) + (-8 : Int32)) + (-4 : Int32)) + (-2 : Int32)) - t24) := by
              by_cases hy : y23.toInt = 1
              · exact own_nlz x0 _ 17 (by decide) (by omega) (by omega) 16384 32768 rfl rfl (by omega) (by omega)
              · exact own_nlz x0 _ 16 (by decide) (by omega) (by omega) 32768 65536 rfl rfl (by omega) (by omega)
            exact leafI X0 hx hret hlk (hb hby d3_78) ⟨⟨_, rfl, qt24⟩, e0, rfl⟩ (by decide) (by decide)
    · have nhc2 := hc2
      rw [own_lt, (show (65536 : Int32).toInt = 65536 from rfl)] at nhc2
      refine Go.step (fun _ k => XS.icmpNo X0.here hx rfl (hb hby d3_22) rfl (flt hc2).1 k) ?_
      show Go _ _ _ _ (s₁.setTop (mkF m 25 #[.val (.int x0), .val (.int (31 : Int32))] []))
      refine Go.step (fun _ k => XS.iinc X0.here hx rfl (hb hby d3_25) rfl (l' := #[.val (.int x0), .val (.int ((31 : Int32) + (-16 : Int32)))]) rfl k) ?_
      show Go _ _ _ _ (s₁.setTop (mkF m 28 #[.val (.int x0), .val (.int ((31 : Int32) + (-16 : Int32)))] []))
      refine Go.step (fun _ k => XS.iloadN X0.here hx rfl (hb hby d3_28) rfl k) ?_
      show Go _ _ _ _ (s₁.setTop (mkF m 29 #[.val (.int x0), .val (.int ((31 : Int32) + (-16 : Int32)))] [(.int x0)]))
      refine Go.step (fun _ k => XS.bipush X0.here hx rfl (hb hby d3_29) k) ?_
      show Go _ _ _ _ (s₁.setTop (mkF m 31 #[.val (.int x0), .val (.int ((31 : Int32) + (-16 : Int32)))] [(.int (16 : Int32)), (.int x0)]))
      refine Go.step (fun _ k => XS.iushr X0.here hx rfl (hb hby d3_31) rfl k) ?_
      show Go _ _ _ _ (s₁.setTop (mkF m 32 #[.val (.int x0), .val (.int ((31 : Int32) + (-16 : Int32)))] [(.int ((x0.toUInt32 >>> ((16 : Int32) &&& 31).toUInt32).toInt32))]))
      refine Go.step (fun _ k => XS.istoreN X0.here hx rfl (hb hby d3_32) rfl (l' := #[.val (.int ((x0.toUInt32 >>> ((16 : Int32) &&& 31).toUInt32).toInt32)), .val (.int ((31 : Int32) + (-16 : Int32)))]) rfl k) ?_
      show Go _ _ _ _ (s₁.setTop (mkF m 33 #[.val (.int ((x0.toUInt32 >>> ((16 : Int32) &&& 31).toUInt32).toInt32)), .val (.int ((31 : Int32) + (-16 : Int32)))] []))
      obtain ⟨y25, hy25⟩ : ∃ z, z = ((x0.toUInt32 >>> ((16 : Int32) &&& 31).toUInt32).toInt32) := ⟨_, rfl⟩
      rw [← hy25]
      have vy25 := own_shr x0 y25 16 16 65536 (by decide) (by decide) rfl (by omega) hy25
      show Go _ _ _ _ (s₁.setTop (mkF m 33 #[.val (.int y25), .val (.int ((31 : Int32) + (-16 : Int32)))] []))
      refine Go.step (fun _ k => XS.iloadN X0.here hx rfl (hb hby d3_33) rfl k) ?_
      show Go _ _ _ _ (s₁.setTop (mkF m 34 #[.val (.int y25), .val (.int ((31 : Int32) + (-16 : Int32)))] [(.int y25)]))
      refine Go.step (fun _ k => XS.sipush X0.here hx rfl (hb hby d3_34) k) ?_
      show Go _ _ _ _ (s₁.setTop (mkF m 37 #[.val (.int y25), .val (.int ((31 : Int32) + (-16 : Int32)))] [(.int (256 : Int32)), (.int y25)]))
      by_cases hc26 : y25 < (256 : Int32)
      · have nhc26 := hc26
        rw [own_lt, (show (256 : Int32).toInt = 256 from rfl)] at nhc26
        refine Go.step (fun _ k => XS.icmpYes X0.here hx rfl (pc0 := 37) (pc' := 48) rfl (hb hby d3_37) rfl (tlt hc26).1 (by decide) (by decide) k) ?_
        show Go _ _ _ _ (s₁.setTop (mkF m 48 #[.val (.int y25), .val (.int ((31 : Int32) + (-16 : Int32)))] []))
        refine Go.step (fun _ k => XS.iloadN X0.here hx rfl (hb hby d3_48) rfl k) ?_
        show Go _ _ _ _ (s₁.setTop (mkF m 49 #[.val (.int y25), .val (.int ((31 : Int32) + (-16 : Int32)))] [(.int y25)]))
        refine Go.step (fun _ k => XS.bipush X0.here hx rfl (hb hby d3_49) k) ?_
        show Go _ _ _ _ (s₁.setTop (mkF m 51 #[.val (.int y25), .val (.int ((31 : Int32) + (-16 : Int32)))] [(.int (16 : Int32)), (.int y25)]))
        by_cases hc27 : y25 < (16 : Int32)
        · have nhc27 := hc27
          rw [own_lt, (show (16 : Int32).toInt = 16 from rfl)] at nhc27
          refine Go.step (fun _ k => XS.icmpYes X0.here hx rfl (pc0 := 51) (pc' := 61) rfl (hb hby d3_51) rfl (tlt hc27).1 (by decide) (by decide) k) ?_
          show Go _ _ _ _ (s₁.setTop (mkF m 61 #[.val (.int y25), .val (.int ((31 : Int32) + (-16 : Int32)))] []))
          refine Go.step (fun _ k => XS.iloadN X0.here hx rfl (hb hby d3_61) rfl k) ?_
          show Go _ _ _ _ (s₁.setTop (mkF m 62 #[.val (.int y25), .val (.int ((31 : Int32) + (-16 : Int32)))] [(.int y25)]))
          refine Go.step (fun _ k => XS.iconst X0.here hx rfl (hb hby d3_62) k) ?_
          show Go _ _ _ _ (s₁.setTop (mkF m 63 #[.val (.int y25), .val (.int ((31 : Int32) + (-16 : Int32)))] [(.int (4 : Int32)), (.int y25)]))
          by_cases hc28 : y25 < (4 : Int32)
          · have nhc28 := hc28
            rw [own_lt, (show (4 : Int32).toInt = 4 from rfl)] at nhc28
            refine Go.step (fun _ k => XS.icmpYes X0.here hx rfl (pc0 := 63) (pc' := 73) rfl (hb hby d3_63) rfl (tlt hc28).1 (by decide) (by decide) k) ?_
            show Go _ _ _ _ (s₁.setTop (mkF m 73 #[.val (.int y25), .val (.int ((31 : Int32) + (-16 : Int32)))] []))
            refine Go.step (fun _ k => XS.iloadN X0.here hx rfl (hb hby d3_73) rfl k) ?_
            show Go _ _ _ _ (s₁.setTop (mkF m 74 #[.val (.int y25), .val (.int ((31 : Int32) + (-16 : Int32)))] [(.int ((31 : Int32) + (-16 : Int32)))]))
            refine Go.step (fun _ k => XS.iloadN X0.here hx rfl (hb hby d3_74) rfl k) ?_
            show Go _ _ _ _ (s₁.setTop (mkF m 75 #[.val (.int y25), .val (.int ((31 : Int32) + (-16 : Int32)))] [(.int y25), (.int ((31 : Int32) + (-16 : Int32)))]))
            refine Go.step (fun _ k => XS.iconst X0.here hx rfl (hb hby d3_75) k) ?_
            show Go _ _ _ _ (s₁.setTop (mkF m 76 #[.val (.int y25), .val (.int ((31 : Int32) + (-16 : Int32)))] [(.int (1 : Int32)), (.int y25), (.int ((31 : Int32) + (-16 : Int32)))]))
            refine Go.step (fun _ k => XS.iushr X0.here hx rfl (hb hby d3_76) rfl k) ?_
            show Go _ _ _ _ (s₁.setTop (mkF m 77 #[.val (.int y25), .val (.int ((31 : Int32) + (-16 : Int32)))] [(.int ((y25.toUInt32 >>> ((1 : Int32) &&& 31).toUInt32).toInt32)), (.int ((31 : Int32) + (-16 : Int32)))]))
            refine Go.step (fun _ k => XS.isub X0.here hx rfl (hb hby d3_77) rfl k) ?_
            show Go _ _ _ _ (s₁.setTop (mkF m 78 #[.val (.int y25), .val (.int ((31 : Int32) + (-16 : Int32)))] [(.int (((31 : Int32) + (-16 : Int32)) - ((y25.toUInt32 >>> ((1 : Int32) &&& 31).toUInt32).toInt32)))]))
            obtain ⟨t29, ht29⟩ : ∃ z, z = ((y25.toUInt32 >>> ((1 : Int32) &&& 31).toUInt32).toInt32) := ⟨_, rfl⟩
            rw [← ht29]
            have vt29 := own_shr y25 t29 1 1 2 (by decide) (by decide) rfl (by omega) ht29
            have st29 := c_isub ((31 : Int32) + (-16 : Int32)) t29
            rw [show (((31 : Int32) + (-16 : Int32))).toInt = 15 from rfl] at st29
            have lx := x0.toInt_lt
            have lt29 := (((31 : Int32) + (-16 : Int32)) - t29).toInt_lt
            have mt29 := (((31 : Int32) + (-16 : Int32)) - t29).le_toInt
            have qt29 : NLZ x0 (((31 : Int32) + (-16 : Int32)) - t29) := by
              by_cases hy : y25.toInt = 1
              · exact own_nlz x0 _ 15 (by decide) (by omega) (by omega) 65536 131072 rfl rfl (by omega) (by omega)
              · exact own_nlz x0 _ 14 (by decide) (by omega) (by omega) 131072 262144 rfl rfl (by omega) (by omega)
            exact leafI X0 hx hret hlk (hb hby d3_78) ⟨⟨_, rfl, qt29⟩, e0, rfl⟩ (by decide) (by decide)
          · have nhc28 := hc28
            rw [own_lt, (show (4 : Int32).toInt = 4 from rfl)] at nhc28
            refine Go.step (fun _ k => XS.icmpNo X0.here hx rfl (hb hby d3_63) rfl (flt hc28).1 k) ?_
            show Go _ _ _ _ (s₁.setTop (mkF m 66 #[.val (.int y25), .val (.int ((31 : Int32) + (-16 : Int32)))] []))
            refine Go.step (fun _ k => XS.iinc X0.here hx rfl (hb hby d3_66) rfl (l' := #[.val (.int y25), .val (.int (((31 : Int32) + (-16 : Int32)) + (-2 : Int32)))]) rfl k) ?_
            show Go _ _ _ _ (s₁.setTop (mkF m 69 #[.val (.int y25), .val (.int (((31 : Int32) + (-16 : Int32)) + (-2 : Int32)))] []))
            refine Go.step (fun _ k => XS.iloadN X0.here hx rfl (hb hby d3_69) rfl k) ?_
            show Go _ _ _ _ (s₁.setTop (mkF m 70 #[.val (.int y25), .val (.int (((31 : Int32) + (-16 : Int32)) + (-2 : Int32)))] [(.int y25)]))
            refine Go.step (fun _ k => XS.iconst X0.here hx rfl (hb hby d3_70) k) ?_
            show Go _ _ _ _ (s₁.setTop (mkF m 71 #[.val (.int y25), .val (.int (((31 : Int32) + (-16 : Int32)) + (-2 : Int32)))] [(.int (2 : Int32)), (.int y25)]))
            refine Go.step (fun _ k => XS.iushr X0.here hx rfl (hb hby d3_71) rfl k) ?_
            show Go _ _ _ _ (s₁.setTop (mkF m 72 #[.val (.int y25), .val (.int (((31 : Int32) + (-16 : Int32)) + (-2 : Int32)))] [(.int ((y25.toUInt32 >>> ((2 : Int32) &&& 31).toUInt32).toInt32))]))
            refine Go.step (fun _ k => XS.istoreN X0.here hx rfl (hb hby d3_72) rfl (l' := #[.val (.int ((y25.toUInt32 >>> ((2 : Int32) &&& 31).toUInt32).toInt32)), .val (.int (((31 : Int32) + (-16 : Int32)) + (-2 : Int32)))]) rfl k) ?_
            show Go _ _ _ _ (s₁.setTop (mkF m 73 #[.val (.int ((y25.toUInt32 >>> ((2 : Int32) &&& 31).toUInt32).toInt32)), .val (.int (((31 : Int32) + (-16 : Int32)) + (-2 : Int32)))] []))
            obtain ⟨y30, hy30⟩ : ∃ z, z = ((y25.toUInt32 >>> ((2 : Int32) &&& 31).toUInt32).toInt32) := ⟨_, rfl⟩
            rw [← hy30]
            have vy30 := own_shr y25 y30 2 2 4 (by decide) (by decide) rfl (by omega) hy30
            show Go _ _ _ _ (s₁.setTop (mkF m 73 #[.val (.int y30), .val (.int (((31 : Int32) + (-16 : Int32)) + (-2 : Int32)))] []))
            refine Go.step (fun _ k => XS.iloadN X0.here hx rfl (hb hby d3_73) rfl k) ?_
            show Go _ _ _ _ (s₁.setTop (mkF m 74 #[.val (.int y30), .val (.int (((31 : Int32) + (-16 : Int32)) + (-2 : Int32)))] [(.int (((31 : Int32) + (-16 : Int32)) + (-2 : Int32)))]))
            refine Go.step (fun _ k => XS.iloadN X0.here hx rfl (hb hby d3_74) rfl k) ?_
            show Go _ _ _ _ (s₁.setTop (mkF m 75 #[.val (.int y30), .val (.int (((31 : Int32) + (-16 : Int32)) + (-2 : Int32)))] [(.int y30), (.int (((31 : Int32) + (-16 : Int32)) + (-2 : Int32)))]))
            refine Go.step (fun _ k => XS.iconst X0.here hx rfl (hb hby d3_75) k) ?_
            show Go _ _ _ _ (s₁.setTop (mkF m 76 #[.val (.int y30), .val (.int (((31 : Int32) + (-16 : Int32)) + (-2 : Int32)))] [(.int (1 : Int32)), (.int y30), (.int (((31 : Int32) + (-16 : Int32)) + (-2 : Int32)))]))
            refine Go.step (fun _ k => XS.iushr X0.here hx rfl (hb hby d3_76) rfl k) ?_
            show Go _ _ _ _ (s₁.setTop (mkF m 77 #[.val (.int y30), .val (.int (((31 : Int32) + (-16 : Int32)) + (-2 : Int32)))] [(.int ((y30.toUInt32 >>> ((1 : Int32) &&& 31).toUInt32).toInt32)), (.int (((31 : Int32) + (-16 : Int32)) + (-2 : Int32)))]))
            refine Go.step (fun _ k => XS.isub X0.here hx rfl (hb hby d3_77) rfl k) ?_
            show Go _ _ _ _ (s₁.setTop (mkF m 78 #[.val (.int y30), .val (.int (((31 : Int32) + (-16 : Int32)) + (-2 : Int32)))] [(.int ((((31 : Int32) + (-16 : Int32)) + (-2 : Int32)) - ((y30.toUInt32 >>> ((1 : Int32) &&& 31).toUInt32).toInt32)))]))
            obtain ⟨t31, ht31⟩ : ∃ z, z = ((y30.toUInt32 >>> ((1 : Int32) &&& 31).toUInt32).toInt32) := ⟨_, rfl⟩
            rw [← ht31]
            have vt31 := own_shr y30 t31 1 1 2 (by decide) (by decide) rfl (by omega) ht31
            have st31 := c_isub (((31 : Int32) + (-16 : Int32)) + (-2 : Int32)) t31
            rw [show ((((31 : Int32) + (-16 : Int32)) + (-2 : Int32))).toInt = 13 from rfl] at st31
            have lx := x0.toInt_lt
            have lt31 := ((((31 : Int32) + (-16 : Int32)) + (-2 : Int32)) - t31).toInt_lt
            have mt31 := ((((31 : Int32) + (-16 : Int32)) + (-2 : Int32)) - t31).le_toInt
            have qt31 : NLZ x0 ((((31 : Int32) + (-16 : Int32)) + (-2 : Int32)) - t31) := by
              by_cases hy : y30.toInt = 1
              · exact own_nlz x0 _ 13 (by decide) (by omega) (by omega) 262144 524288 rfl rfl (by omega) (by omega)
              · exact own_nlz x0 _ 12 (by decide) (by omega) (by omega) 524288 1048576 rfl rfl (by omega) (by omega)
            exact leafI X0 hx hret hlk (hb hby d3_78) ⟨⟨_, rfl, qt31⟩, e0, rfl⟩ (by decide) (by decide)
        · have nhc27 := hc27
          rw [own_lt, (show (16 : Int32).toInt = 16 from rfl)] at nhc27
          refine Go.step (fun _ k => XS.icmpNo X0.here hx rfl (hb hby d3_51) rfl (flt hc27).1 k) ?_
          show Go _ _ _ _ (s₁.setTop (mkF m 54 #[.val (.int y25), .val (.int ((31 : Int32) + (-16 : Int32)))] []))
          refine Go.step (fun _ k => XS.iinc X0.here hx rfl (hb hby d3_54) rfl (l' := #[.val (.int y25), .val (.int (((31 : Int32) + (-16 : Int32)) + (-4 : Int32)))]) rfl k) ?_
          show Go _ _ _ _ (s₁.setTop (mkF m 57 #[.val (.int y25), .val (.int (((31 : Int32) + (-16 : Int32)) + (-4 : Int32)))] []))
          refine Go.step (fun _ k => XS.iloadN X0.here hx rfl (hb hby d3_57) rfl k) ?_
          show Go _ _ _ _ (s₁.setTop (mkF m 58 #[.val (.int y25), .val (.int (((31 : Int32) + (-16 : Int32)) + (-4 : Int32)))] [(.int y25)]))
          refine Go.step (fun _ k => XS.iconst X0.here hx rfl (hb hby d3_58) k) ?_
          show Go _ _ _ _ (s₁.setTop (mkF m 59 #[.val (.int y25), .val (.int (((31 : Int32) + (-16 : Int32)) + (-4 : Int32)))] [(.int (4 : Int32)), (.int y25)]))
          refine Go.step (fun _ k => XS.iushr X0.here hx rfl (hb hby d3_59) rfl k) ?_
          show Go _ _ _ _ (s₁.setTop (mkF m 60 #[.val (.int y25), .val (.int (((31 : Int32) + (-16 : Int32)) + (-4 : Int32)))] [(.int ((y25.toUInt32 >>> ((4 : Int32) &&& 31).toUInt32).toInt32))]))
          refine Go.step (fun _ k => XS.istoreN X0.here hx rfl (hb hby d3_60) rfl (l' := #[.val (.int ((y25.toUInt32 >>> ((4 : Int32) &&& 31).toUInt32).toInt32)), .val (.int (((31 : Int32) + (-16 : Int32)) + (-4 : Int32)))]) rfl k) ?_
          show Go _ _ _ _ (s₁.setTop (mkF m 61 #[.val (.int ((y25.toUInt32 >>> ((4 : Int32) &&& 31).toUInt32).toInt32)), .val (.int (((31 : Int32) + (-16 : Int32)) + (-4 : Int32)))] []))
          obtain ⟨y32, hy32⟩ : ∃ z, z = ((y25.toUInt32 >>> ((4 : Int32) &&& 31).toUInt32).toInt32) := ⟨_, rfl⟩
          rw [← hy32]
          have vy32 := own_shr y25 y32 4 4 16 (by decide) (by decide) rfl (by omega) hy32
          show Go _ _ _ _ (s₁.setTop (mkF m 61 #[.val (.int y32), .val (.int (((31 : Int32) + (-16 : Int32)) + (-4 : Int32)))] []))
          refine Go.step (fun _ k => XS.iloadN X0.here hx rfl (hb hby d3_61) rfl k) ?_
          show Go _ _ _ _ (s₁.setTop (mkF m 62 #[.val (.int y32), .val (.int (((31 : Int32) + (-16 : Int32)) + (-4 : Int32)))] [(.int y32)]))
          refine Go.step (fun _ k => XS.iconst X0.here hx rfl (hb hby d3_62) k) ?_
          show Go _ _ _ _ (s₁.setTop (mkF m 63 #[.val (.int y32), .val (.int (((31 : Int32) + (-16 : Int32)) + (-4 : Int32)))] [(.int (4 : Int32)), (.int y32)]))
          by_cases hc33 : y32 < (4 : Int32)
          · have nhc33 := hc33
            rw [own_lt, (show (4 : Int32).toInt = 4 from rfl)] at nhc33
            refine Go.step (fun _ k => XS.icmpYes X0.here hx rfl (pc0 := 63) (pc' := 73) rfl (hb hby d3_63) rfl (tlt hc33).1 (by decide) (by decide) k) ?_
            show Go _ _ _ _ (s₁.setTop (mkF m 73 #[.val (.int y32), .val (.int (((31 : Int32) + (-16 : Int32)) + (-4 : Int32)))] []))
            refine Go.step (fun _ k => XS.iloadN X0.here hx rfl (hb hby d3_73) rfl k) ?_
            show Go _ _ _ _ (s₁.setTop (mkF m 74 #[.val (.int y32), .val (.int (((31 : Int32) + (-16 : Int32)) + (-4 : Int32)))] [(.int (((31 : Int32) + (-16 : Int32)) + (-4 : Int32)))]))
            refine Go.step (fun _ k => XS.iloadN X0.here hx rfl (hb hby d3_74) rfl k) ?_
            show Go _ _ _ _ (s₁.setTop (mkF m 75 #[.val (.int y32), .val (.int (((31 : Int32) + (-16 : Int32)) + (-4 : Int32)))] [(.int y32), (.int (((31 : Int32) + (-16 : Int32)) + (-4 : Int32)))]))
            refine Go.step (fun _ k => XS.iconst X0.here hx rfl (hb hby d3_75) k) ?_
            show Go _ _ _ _ (s₁.setTop (mkF m 76 #[.val (.int y32), .val (.int (((31 : Int32) + (-16 : Int32)) + (-4 : Int32)))] [(.int (1 : Int32)), (.int y32), (.int (((31 : Int32) + (-16 : Int32)) + (-4 : Int32)))]))
            refine Go.step (fun _ k => XS.iushr X0.here hx rfl (hb hby d3_76) rfl k) ?_
            show Go _ _ _ _ (s₁.setTop (mkF m 77 #[.val (.int y32), .val (.int (((31 : Int32) + (-16 : Int32)) + (-4 : Int32)))] [(.int ((y32.toUInt32 >>> ((1 : Int32) &&& 31).toUInt32).toInt32)), (.int (((31 : Int32) + (-16 : Int32)) + (-4 : Int32)))]))
            refine Go.step (fun _ k => XS.isub X0.here hx rfl (hb hby d3_77) rfl k) ?_
            show Go _ _ _ _ (s₁.setTop (mkF m 78 #[.val (.int y32), .val (.int (((31 : Int32) + (-16 : Int32)) + (-4 : Int32)))] [(.int ((((31 : Int32) + (-16 : Int32)) + (-4 : Int32)) - ((y32.toUInt32 >>> ((1 : Int32) &&& 31).toUInt32).toInt32)))]))
            obtain ⟨t34, ht34⟩ : ∃ z, z = ((y32.toUInt32 >>> ((1 : Int32) &&& 31).toUInt32).toInt32) := ⟨_, rfl⟩
            rw [← ht34]
            have vt34 := own_shr y32 t34 1 1 2 (by decide) (by decide) rfl (by omega) ht34
            have st34 := c_isub (((31 : Int32) + (-16 : Int32)) + (-4 : Int32)) t34
            rw [show ((((31 : Int32) + (-16 : Int32)) + (-4 : Int32))).toInt = 11 from rfl] at st34
            have lx := x0.toInt_lt
            have lt34 := ((((31 : Int32) + (-16 : Int32)) + (-4 : Int32)) - t34).toInt_lt
            have mt34 := ((((31 : Int32) + (-16 : Int32)) + (-4 : Int32)) - t34).le_toInt
            have qt34 : NLZ x0 ((((31 : Int32) + (-16 : Int32)) + (-4 : Int32)) - t34) := by
              by_cases hy : y32.toInt = 1
              · exact own_nlz x0 _ 11 (by decide) (by omega) (by omega) 1048576 2097152 rfl rfl (by omega) (by omega)
              · exact own_nlz x0 _ 10 (by decide) (by omega) (by omega) 2097152 4194304 rfl rfl (by omega) (by omega)
            exact leafI X0 hx hret hlk (hb hby d3_78) ⟨⟨_, rfl, qt34⟩, e0, rfl⟩ (by decide) (by decide)
          · have nhc33 := hc33
            rw [own_lt, (show (4 : Int32).toInt = 4 from rfl)] at nhc33
            refine Go.step (fun _ k => XS.icmpNo X0.here hx rfl (hb hby d3_63) rfl (flt hc33).1 k) ?_
            show Go _ _ _ _ (s₁.setTop (mkF m 66 #[.val (.int y32), .val (.int (((31 : Int32) + (-16 : Int32)) + (-4 : Int32)))] []))
            refine Go.step (fun _ k => XS.iinc X0.here hx rfl (hb hby d3_66) rfl (l' := #[.val (.int y32), .val (.int ((((31 : Int32) + (-16 : Int32)) + (-4 : Int32)) + (-2 : Int32)))]) rfl k) ?_
            show Go _ _ _ _ (s₁.setTop (mkF m 69 #[.val (.int y32), .val (.int ((((31 : Int32) + (-16 : Int32)) + (-4 : Int32)) + (-2 : Int32)))] []))
            refine Go.step (fun _ k => XS.iloadN X0.here hx rfl (hb hby d3_69) rfl k) ?_
            show Go _ _ _ _ (s₁.setTop (mkF m 70 #[.val (.int y32), .val (.int ((((31 : Int32) + (-16 : Int32)) + (-4 : Int32)) + (-2 : Int32)))] [(.int y32)]))
            refine Go.step (fun _ k => XS.iconst X0.here hx rfl (hb hby d3_70) k) ?_
            show Go _ _ _ _ (s₁.setTop (mkF m 71 #[.val (.int y32), .val (.int ((((31 : Int32) + (-16 : Int32)) + (-4 : Int32)) + (-2 : Int32)))] [(.int (2 : Int32)), (.int y32)]))
            refine Go.step (fun _ k => XS.iushr X0.here hx rfl (hb hby d3_71) rfl k) ?_
            show Go _ _ _ _ (s₁.setTop (mkF m 72 #[.val (.int y32), .val (.int ((((31 : Int32) + (-16 : Int32)) + (-4 : Int32)) + (-2 : Int32)))] [(.int ((y32.toUInt32 >>> ((2 : Int32) &&& 31).toUInt32).toInt32))]))
            refine Go.step (fun _ k => XS.istoreN X0.here hx rfl (hb hby d3_72) rfl (l' := #[.val (.int ((y32.toUInt32 >>> ((2 : Int32) &&& 31).toUInt32).toInt32)), .val (.int ((((31 : Int32) + (-16 : Int32)) + (-4 : Int32)) + (-2 : Int32)))]) rfl k) ?_
            show Go _ _ _ _ (s₁.setTop (mkF m 73 #[.val (.int ((y32.toUInt32 >>> ((2 : Int32) &&& 31).toUInt32).toInt32)), .val (.int ((((31 : Int32) + (-16 : Int32)) + (-4 : Int32)) + (-2 : Int32)))] []))
            obtain ⟨y35, hy35⟩ : ∃ z, z = ((y32.toUInt32 >>> ((2 : Int32) &&& 31).toUInt32).toInt32) := ⟨_, rfl⟩
            rw [← hy35]
            have vy35 := own_shr y32 y35 2 2 4 (by decide) (by decide) rfl (by omega) hy35
            show Go _ _ _ _ (s₁.setTop (mkF m 73 #[.val (.int y35), .val (.int ((((31 : Int32) + (-16 : Int32)) + (-4 : Int32)) + (-2 : Int32)))] []))
            refine Go.step (fun _ k => XS.iloadN X0.here hx rfl (hb hby d3_73) rfl k) ?_
            show Go _ _ _ _ (s₁.setTop (mkF m 74 #[.val (.int y35), .val (.int ((((31 : Int32) + (-16 : Int32)) + (-4 : Int32)) + (-2 : Int32)))] [(.int ((((31 : Int32) + (-16 : Int32)) + (-4 : Int32)) + (-2 : Int32)))]))
            refine Go.step (fun _ k => XS.iloadN X0.here hx rfl (hb hby d3_74) rfl k) ?_
            show Go _ _ _ _ (s₁.setTop (mkF m 75 #[.val (.int y35), .val (.int ((((31 : Int32) + (-16 : Int32)) + (-4 : Int32)) + (-2 : Int32)))] [(.int y35), (.int ((((31 : Int32) + (-16 : Int32)) + (-4 : Int32)) + (-2 : Int32)))]))
            refine Go.step (fun _ k => XS.iconst X0.here hx rfl (hb hby d3_75) k) ?_
            show Go _ _ _ _ (s₁.setTop (mkF m 76 #[.val (.int y35), .val (.int ((((31 : Int32) + (-16 : Int32)) + (-4 : Int32)) + (-2 : Int32)))] [(.int (1 : Int32)), (.int y35), (.int ((((31 : Int32) + (-16 : Int32)) + (-4 : Int32)) + (-2 : Int32)))]))
            refine Go.step (fun _ k => XS.iushr X0.here hx rfl (hb hby d3_76) rfl k) ?_
            show Go _ _ _ _ (s₁.setTop (mkF m 77 #[.val (.int y35), .val (.int ((((31 : Int32) + (-16 : Int32)) + (-4 : Int32)) + (-2 : Int32)))] [(.int ((y35.toUInt32 >>> ((1 : Int32) &&& 31).toUInt32).toInt32)), (.int ((((31 : Int32) + (-16 : Int32)) + (-4 : Int32)) + (-2 : Int32)))]))
            refine Go.step (fun _ k => XS.isub X0.here hx rfl (hb hby d3_77) rfl k) ?_
            show Go _ _ _ _ (s₁.setTop (mkF m 78 #[.val (.int y35), .val (.int ((((31 : Int32) + (-16 : Int32)) + (-4 : Int32)) + (-2 : Int32)))] [(.int (((((31 : Int32) + (-16 : Int32)) + (-4 : Int32)) + (-2 : Int32)) - ((y35.toUInt32 >>> ((1 : Int32) &&& 31).toUInt32).toInt32)))]))
            obtain ⟨t36, ht36⟩ : ∃ z, z = ((y35.toUInt32 >>> ((1 : Int32) &&& 31).toUInt32).toInt32) := ⟨_, rfl⟩
            rw [← ht36]
            have vt36 := own_shr y35 t36 1 1 2 (by decide) (by decide) rfl (by omega) ht36
            have st36 := c_isub ((((31 : Int32) + (-16 : Int32)) + (-4 : Int32)) + (-2 : Int32)) t36
            rw [show (((((31 : Int32) + (-16 : Int32)) + (-4 : Int32)) + (-2 : Int32))).toInt = 9 from rfl] at st36
            have lx := x0.toInt_lt
            have lt36 := (((((31 : Int32) + (-16 : Int32)) + (-4 : Int32)) + (-2 : Int32)) - t36).toInt_lt
            have mt36 := (((((31 : Int32) + (-16 : Int32)) + (-4 : Int32)) + (-2 : Int32)) - t36).le_toInt
            have qt36 : NLZ x0 (((((31 : Int32) + (-16 : Int32)) + (-4 : Int32)) + (-2 : Int32)) - t36) := by
              by_cases hy : y35.toInt = 1
              · exact own_nlz x0 _ 9 (by decide) (by omega) (by omega) 4194304 8388608 rfl rfl (by omega) (by omega)
              · exact own_nlz x0 _ 8 (by decide) (by omega) (by omega) 8388608 16777216 rfl rfl (by omega) (by omega)
            exact leafI X0 hx hret hlk (hb hby d3_78) ⟨⟨_, rfl, qt36⟩, e0, rfl⟩ (by decide) (by decide)
      · have nhc26 := hc26
        rw [own_lt, (show (256 : Int32).toInt = 256 from rfl)] at nhc26
        refine Go.step (fun _ k => XS.icmpNo X0.here hx rfl (hb hby d3_37) rfl (flt hc26).1 k) ?_
        show Go _ _ _ _ (s₁.setTop (mkF m 40 #[.val (.int y25), .val (.int ((31 : Int32) + (-16 : Int32)))] []))
        refine Go.step (fun _ k => XS.iinc X0.here hx rfl (hb hby d3_40) rfl (l' := #[.val (.int y25), .val (.int (((31 : Int32) + (-16 : Int32)) + (-8 : Int32)))]) rfl k) ?_
        show Go _ _ _ _ (s₁.setTop (mkF m 43 #[.val (.int y25), .val (.int (((31 : Int32) + (-16 : Int32)) + (-8 : Int32)))] []))
        refine Go.step (fun _ k => XS.iloadN X0.here hx rfl (hb hby d3_43) rfl k) ?_
        show Go _ _ _ _ (s₁.setTop (mkF m 44 #[.val (.int y25), .val (.int (((31 : Int32) + (-16 : Int32)) + (-8 : Int32)))] [(.int y25)]))
        refine Go.step (fun _ k => XS.bipush X0.here hx rfl (hb hby d3_44) k) ?_
        show Go _ _ _ _ (s₁.setTop (mkF m 46 #[.val (.int y25), .val (.int (((31 : Int32) + (-16 : Int32)) + (-8 : Int32)))] [(.int (8 : Int32)), (.int y25)]))
        refine Go.step (fun _ k => XS.iushr X0.here hx rfl (hb hby d3_46) rfl k) ?_
        show Go _ _ _ _ (s₁.setTop (mkF m 47 #[.val (.int y25), .val (.int (((31 : Int32) + (-16 : Int32)) + (-8 : Int32)))] [(.int ((y25.toUInt32 >>> ((8 : Int32) &&& 31).toUInt32).toInt32))]))
        refine Go.step (fun _ k => XS.istoreN X0.here hx rfl (hb hby d3_47) rfl (l' := #[.val (.int ((y25.toUInt32 >>> ((8 : Int32) &&& 31).toUInt32).toInt32)), .val (.int (((31 : Int32) + (-16 : Int32)) + (-8 : Int32)))]) rfl k) ?_
        show Go _ _ _ _ (s₁.setTop (mkF m 48 #[.val (.int ((y25.toUInt32 >>> ((8 : Int32) &&& 31).toUInt32).toInt32)), .val (.int (((31 : Int32) + (-16 : Int32)) + (-8 : Int32)))] []))
        obtain ⟨y37, hy37⟩ : ∃ z, z = ((y25.toUInt32 >>> ((8 : Int32) &&& 31).toUInt32).toInt32) := ⟨_, rfl⟩
        rw [← hy37]
        have vy37 := own_shr y25 y37 8 8 256 (by decide) (by decide) rfl (by omega) hy37
        show Go _ _ _ _ (s₁.setTop (mkF m 48 #[.val (.int y37), .val (.int (((31 : Int32) + (-16 : Int32)) + (-8 : Int32)))] []))
        refine Go.step (fun _ k => XS.iloadN X0.here hx rfl (hb hby d3_48) rfl k) ?_
        show Go _ _ _ _ (s₁.setTop (mkF m 49 #[.val (.int y37), .val (.int (((31 : Int32) + (-16 : Int32)) + (-8 : Int32)))] [(.int y37)]))
        refine Go.step (fun _ k => XS.bipush X0.here hx rfl (hb hby d3_49) k) ?_
        show Go _ _ _ _ (s₁.setTop (mkF m 51 #[.val (.int y37), .val (.int (((31 : Int32) + (-16 : Int32)) + (-8 : Int32)))] [(.int (16 : Int32)), (.int y37)]))
        by_cases hc38 : y37 < (16 : Int32)
        · have nhc38 := hc38
          rw [own_lt, (show (16 : Int32).toInt = 16 from rfl)] at nhc38
          refine Go.step (fun _ k => XS.icmpYes X0.here hx rfl (pc0 := 51) (pc' := 61) rfl (hb hby d3_51) rfl (tlt hc38).1 (by decide) (by decide) k) ?_
          show Go _ _ _ _ (s₁.setTop (mkF m 61 #[.val (.int y37), .val (.int (((31 : Int32) + (-16 : Int32)) + (-8 : Int32)))] []))
          refine Go.step (fun _ k => XS.iloadN X0.here hx rfl (hb hby d3_61) rfl k) ?_
          show Go _ _ _ _ (s₁.setTop (mkF m 62 #[.val (.int y37), .val (.int (((31 : Int32) + (-16 : Int32)) + (-8 : Int32)))] [(.int y37)]))
          refine Go.step (fun _ k => XS.iconst X0.here hx rfl (hb hby d3_62) k) ?_
          show Go _ _ _ _ (s₁.setTop (mkF m 63 #[.val (.int y37), .val (.int (((31 : Int32) + (-16 : Int32)) + (-8 : Int32)))] [(.int (4 : Int32)), (.int y37)]))
          by_cases hc39 : y37 < (4 : Int32)
          · have nhc39 := hc39
            rw [own_lt, (show (4 : Int32).toInt = 4 from rfl)] at nhc39
            refine Go.step (fun _ k => XS.icmpYes X0.here hx rfl (pc0 := 63) (pc' := 73) rfl (hb hby d3_63) rfl (tlt hc39).1 (by decide) (by decide) k) ?_
            show Go _ _ _ _ (s₁.setTop (mkF m 73 #[.val (.int y37), .val (.int (((31 : Int32) + (-16 : Int32)) + (-8 : Int32)))] []))
            refine Go.step (fun _ k => XS.iloadN X0.here hx rfl (hb hby d3_73) rfl k) ?_
            show Go _ _ _ _ (s₁.setTop (mkF m 74 #[.val (.int y37), .val (.int (((31 : Int32) + (-16 : Int32)) + (-8 : Int32)))] [(.int (((31 : Int32) + (-16 : Int32)) + (-8 : Int32)))]))
            refine Go.step (fun _ k => XS.iloadN X0.here hx rfl (hb hby d3_74) rfl k) ?_
            show Go _ _ _ _ (s₁.setTop (mkF m 75 #[.val (.int y37), .val (.int (((31 : Int32) + (-16 : Int32)) + (-8 : Int32)))] [(.int y37), (.int (((31 : Int32) + (-16 : Int32)) + (-8 : Int32)))]))
            refine Go.step (fun _ k => XS.iconst X0.here hx rfl (hb hby d3_75) k) ?_
            show Go _ _ _ _ (s₁.setTop (mkF m 76 #[.val (.int y37), .val (.int (((31 : Int32) + (-16 : Int32)) + (-8 : Int32)))] [(.int (1 : Int32)), (.int y37), (.int (((31 : Int32) + (-16 : Int32)) + (-8 : Int32)))]))
            refine Go.step (fun _ k => XS.iushr X0.here hx rfl (hb hby d3_76) rfl k) ?_
            show Go _ _ _ _ (s₁.setTop (mkF m 77 #[.val (.int y37), .val (.int (((31 : Int32) + (-16 : Int32)) + (-8 : Int32)))] [(.int ((y37.toUInt32 >>> ((1 : Int32) &&& 31).toUInt32).toInt32)), (.int (((31 : Int32) + (-16 : Int32)) + (-8 : Int32)))]))
            refine Go.step (fun _ k => XS.isub X0.here hx rfl (hb hby d3_77) rfl k) ?_
            show Go _ _ _ _ (s₁.setTop (mkF m 78 #[.val (.int y37), .val (.int (((31 : Int32) + (-16 : Int32)) + (-8 : Int32)))] [(.int ((((31 : Int32) + (-16 : Int32)) + (-8 : Int32)) - ((y37.toUInt32 >>> ((1 : Int32) &&& 31).toUInt32).toInt32)))]))
            obtain ⟨t40, ht40⟩ : ∃ z, z = ((y37.toUInt32 >>> ((1 : Int32) &&& 31).toUInt32).toInt32) := ⟨_, rfl⟩
            rw [← ht40]
            have vt40 := own_shr y37 t40 1 1 2 (by decide) (by decide) rfl (by omega) ht40
            have st40 := c_isub (((31 : Int32) + (-16 : Int32)) + (-8 : Int32)) t40
            rw [show ((((31 : Int32) + (-16 : Int32)) + (-8 : Int32))).toInt = 7 from rfl] at st40
            have lx := x0.toInt_lt
            have lt40 := ((((31 : Int32) + (-16 : Int32)) + (-8 : Int32)) - t40).toInt_lt
            have mt40 := ((((31 : Int32) + (-16 : Int32)) + (-8 : Int32)) - t40).le_toInt
            have qt40 : NLZ x0 ((((31 : Int32) + (-16 : Int32)) + (-8 : Int32)) - t40) := by
              by_cases hy : y37.toInt = 1
              · exact own_nlz x0 _ 7 (by decide) (by omega) (by omega) 16777216 33554432 rfl rfl (by omega) (by omega)
              · exact own_nlz x0 _ 6 (by decide) (by omega) (by omega) 33554432 67108864 rfl rfl (by omega) (by omega)
            exact leafI X0 hx hret hlk (hb hby d3_78) ⟨⟨_, rfl, qt40⟩, e0, rfl⟩ (by decide) (by decide)
          · have nhc39 := hc39
            rw [own_lt, (show (4 : Int32).toInt = 4 from rfl)] at nhc39
            refine Go.step (fun _ k => XS.icmpNo X0.here hx rfl (hb hby d3_63) rfl (flt hc39).1 k) ?_
            show Go _ _ _ _ (s₁.setTop (mkF m 66 #[.val (.int y37), .val (.int (((31 : Int32) + (-16 : Int32)) + (-8 : Int32)))] []))
            refine Go.step (fun _ k => XS.iinc X0.here hx rfl (hb hby d3_66) rfl (l' := #[.val (.int y37), .val (.int ((((31 : Int32) + (-16 : Int32)) + (-8 : Int32)) + (-2 : Int32)))]) rfl k) ?_
            show Go _ _ _ _ (s₁.setTop (mkF m 69 #[.val (.int y37), .val (.int ((((31 : Int32) + (-16 : Int32)) + (-8 : Int32)) + (-2 : Int32)))] []))
            refine Go.step (fun _ k => XS.iloadN X0.here hx rfl (hb hby d3_69) rfl k) ?_
            show Go _ _ _ _ (s₁.setTop (mkF m 70 #[.val (.int y37), .val (.int ((((31 : Int32) + (-16 : Int32)) + (-8 : Int32)) + (-2 : Int32)))] [(.int y37)]))
            refine Go.step (fun _ k => XS.iconst X0.here hx rfl (hb hby d3_70) k) ?_
            show Go _ _ _ _ (s₁.setTop (mkF m 71 #[.val (.int y37), .val (.int ((((31 : Int32) + (-16 : Int32)) + (-8 : Int32)) + (-2 : Int32)))] [(.int (2 : Int32)), (.int y37)]))
            refine Go.step (fun _ k => XS.iushr X0.here hx rfl (hb hby d3_71) rfl k) ?_
            show Go _ _ _ _ (s₁.setTop (mkF m 72 #[.val (.int y37), .val (.int ((((31 : Int32) + (-16 : Int32)) + (-8 : Int32)) + (-2 : Int32)))] [(.int ((y37.toUInt32 >>> ((2 : Int32) &&& 31).toUInt32).toInt32))]))
            refine Go.step (fun _ k => XS.istoreN X0.here hx rfl (hb hby d3_72) rfl (l' := #[.val (.int ((y37.toUInt32 >>> ((2 : Int32) &&& 31).toUInt32).toInt32)), .val (.int ((((31 : Int32) + (-16 : Int32)) + (-8 : Int32)) + (-2 : Int32)))]) rfl k) ?_
            show Go _ _ _ _ (s₁.setTop (mkF m 73 #[.val (.int ((y37.toUInt32 >>> ((2 : Int32) &&& 31).toUInt32).toInt32)), .val (.int ((((31 : Int32) + (-16 : Int32)) + (-8 : Int32)) + (-2 : Int32)))] []))
            obtain ⟨y41, hy41⟩ : ∃ z, z = ((y37.toUInt32 >>> ((2 : Int32) &&& 31).toUInt32).toInt32) := ⟨_, rfl⟩
            rw [← hy41]
            have vy41 := own_shr y37 y41 2 2 4 (by decide) (by decide) rfl (by omega) hy41
            show Go _ _ _ _ (s₁.setTop (mkF m 73 #[.val (.int y41), .val (.int ((((31 : Int32) + (-16 : Int32)) + (-8 : Int32)) + (-2 : Int32)))] []))
            refine Go.step (fun _ k => XS.iloadN X0.here hx rfl (hb hby d3_73) rfl k) ?_
            show Go _ _ _ _ (s₁.setTop (mkF m 74 #[.val (.int y41), .val (.int ((((31 : Int32) + (-16 : Int32)) + (-8 : Int32)) + (-2 : Int32)))] [(.int ((((31 : Int32) + (-16 : Int32)) + (-8 : Int32)) + (-2 : Int32)))]))
            refine Go.step (fun _ k => XS.iloadN X0.here hx rfl (hb hby d3_74) rfl k) ?_
            show Go _ _ _ _ (s₁.setTop (mkF m 75 #[.val (.int y41), .val (.int ((((31 : Int32) + (-16 : Int32)) + (-8 : Int32)) + (-2 : Int32)))] [(.int y41), (.int ((((31 : Int32) + (-16 : Int32)) + (-8 : Int32)) + (-2 : Int32)))]))
            refine Go.step (fun _ k => XS.iconst X0.here hx rfl (hb hby d3_75) k) ?_
            show Go _ _ _ _ (s₁.setTop (mkF m 76 #[.val (.int y41), .val (.int ((((31 : Int32) + (-16 : Int32)) + (-8 : Int32)) + (-2 : Int32)))] [(.int (1 : Int32)), (.int y41), (.int ((((31 : Int32) + (-16 : Int32)) + (-8 : Int32)) + (-2 : Int32)))]))
            refine Go.step (fun _ k => XS.iushr X0.here hx rfl (hb hby d3_76) rfl k) ?_
            show Go _ _ _ _ (s₁.setTop (mkF m 77 #[.val (.int y41), .val (.int ((((31 : Int32) + (-16 : Int32)) + (-8 : Int32)) + (-2 : Int32)))] [(.int ((y41.toUInt32 >>> ((1 : Int32) &&& 31).toUInt32).toInt32)), (.int ((((31 : Int32) + (-16 : Int32)) + (-8 : Int32)) + (-2 : Int32)))]))
            refine Go.step (fun _ k => XS.isub X0.here hx rfl (hb hby d3_77) rfl k) ?_
            show Go _ _ _ _ (s₁.setTop (mkF m 78 #[.val (.int y41), .val (.int ((((31 : Int32) + (-16 : Int32)) + (-8 : Int32)) + (-2 : Int32)))] [(.int (((((31 : Int32) + (-16 : Int32)) + (-8 : Int32)) + (-2 : Int32)) - ((y41.toUInt32 >>> ((1 : Int32) &&& 31).toUInt32).toInt32)))]))
            obtain ⟨t42, ht42⟩ : ∃ z, z = ((y41.toUInt32 >>> ((1 : Int32) &&& 31).toUInt32).toInt32) := ⟨_, rfl⟩
            rw [← ht42]
            have vt42 := own_shr y41 t42 1 1 2 (by decide) (by decide) rfl (by omega) ht42
            have st42 := c_isub ((((31 : Int32) + (-16 : Int32)) + (-8 : Int32)) + (-2 : Int32)) t42
            rw [show (((((31 : Int32) + (-16 : Int32)) + (-8 : Int32)) + (-2 : Int32))).toInt = 5 from rfl] at st42
            have lx := x0.toInt_lt
            have lt42 := (((((31 : Int32) + (-16 : Int32)) + (-8 : Int32)) + (-2 : Int32)) - t42).toInt_lt
            have mt42 := (((((31 : Int32) + (-16 : Int32)) + (-8 : Int32)) + (-2 : Int32)) - t42).le_toInt
            have qt42 : NLZ x0 (((((31 : Int32) + (-16 : Int32)) + (-8 : Int32)) + (-2 : Int32)) - t42) := by
              by_cases hy : y41.toInt = 1
              · exact own_nlz x0 _ 5 (by decide) (by omega) (by omega) 67108864 134217728 rfl rfl (by omega) (by omega)
              · exact own_nlz x0 _ 4 (by decide) (by omega) (by omega) 134217728 268435456 rfl rfl (by omega) (by omega)
            exact leafI X0 hx hret hlk (hb hby d3_78) ⟨⟨_, rfl, qt42⟩, e0, rfl⟩ (by decide) (by decide)
        · have nhc38 := hc38
          rw [own_lt, (show (16 : Int32).toInt = 16 from rfl)] at nhc38
          refine Go.step (fun _ k => XS.icmpNo X0.here hx rfl (hb hby d3_51) rfl (flt hc38).1 k) ?_
          show Go _ _ _ _ (s₁.setTop (mkF m 54 #[.val (.int y37), .val (.int (((31 : Int32) + (-16 : Int32)) + (-8 : Int32)))] []))
          refine Go.step (fun _ k => XS.iinc X0.here hx rfl (hb hby d3_54) rfl (l' := #[.val (.int y37), .val (.int ((((31 : Int32) + (-16 : Int32)) + (-8 : Int32)) + (-4 : Int32)))]) rfl k) ?_
          show Go _ _ _ _ (s₁.setTop (mkF m 57 #[.val (.int y37), .val (.int ((((31 : Int32) + (-16 : Int32)) + (-8 : Int32)) + (-4 : Int32)))] []))
          refine Go.step (fun _ k => XS.iloadN X0.here hx rfl (hb hby d3_57) rfl k) ?_
          show Go _ _ _ _ (s₁.setTop (mkF m 58 #[.val (.int y37), .val (.int ((((31 : Int32) + (-16 : Int32)) + (-8 : Int32)) + (-4 : Int32)))] [(.int y37)]))
          refine Go.step (fun _ k => XS.iconst X0.here hx rfl (hb hby d3_58) k) ?_
          show Go _ _ _ _ (s₁.setTop (mkF m 59 #[.val (.int y37), .val (.int ((((31 : Int32) + (-16 : Int32)) + (-8 : Int32)) + (-4 : Int32)))] [(.int (4 : Int32)), (.int y37)]))
          refine Go.step (fun _ k => XS.iushr X0.here hx rfl (hb hby d3_59) rfl k) ?_
          show Go _ _ _ _ (s₁.setTop (mkF m 60 #[.val (.int y37), .val (.int ((((31 : Int32) + (-16 : Int32)) + (-8 : Int32)) + (-4 : Int32)))] [(.int ((y37.toUInt32 >>> ((4 : Int32) &&& 31).toUInt32).toInt32))]))
          refine Go.step (fun _ k => XS.istoreN X0.here hx rfl (hb hby d3_60) rfl (l' := #[.val (.int ((y37.toUInt32 >>> ((4 : Int32) &&& 31).toUInt32).toInt32)), .val (.int ((((31 : Int32) + (-16 : Int32)) + (-8 : Int32)) + (-4 : Int32)))]) rfl k) ?_
          show Go _ _ _ _ (s₁.setTop (mkF m 61 #[.val (.int ((y37.toUInt32 >>> ((4 : Int32) &&& 31).toUInt32).toInt32)), .val (.int ((((31 : Int32) + (-16 : Int32)) + (-8 : Int32)) + (-4 : Int32)))] []))
          obtain ⟨y43, hy43⟩ : ∃ z, z = ((y37.toUInt32 >>> ((4 : Int32) &&& 31).toUInt32).toInt32) := ⟨_, rfl⟩
          rw [← hy43]
          have vy43 := own_shr y37 y43 4 4 16 (by decide) (by decide) rfl (by omega) hy43
          show Go _ _ _ _ (s₁.setTop (mkF m 61 #[.val (.int y43), .val (.int ((((31 : Int32) + (-16 : Int32)) + (-8 : Int32)) + (-4 : Int32)))] []))
          refine Go.step (fun _ k => XS.iloadN X0.here hx rfl (hb hby d3_61) rfl k) ?_
          show Go _ _ _ _ (s₁.setTop (mkF m 62 #[.val (.int y43), .val (.int ((((31 : Int32) + (-16 : Int32)) + (-8 : Int32)) + (-4 : Int32)))] [(.int y43)]))
          refine Go.step (fun _ k => XS.iconst X0.here hx rfl (hb hby d3_62) k) ?_
          show Go _ _ _ _ (s₁.setTop (mkF m 63 #[.val (.int y43), .val (.int ((((31 : Int32) + (-16 : Int32)) + (-8 : Int32)) + (-4 : Int32)))] [(.int (4 : Int32)), (.int y43)]))
          by_cases hc44 : y43 < (4 : Int32)
          · have nhc44 := hc44
            rw [own_lt, (show (4 : Int32).toInt = 4 from rfl)] at nhc44
            refine Go.step (fun _ k => XS.icmpYes X0.here hx rfl (pc0 := 63) (pc' := 73) rfl (hb hby d3_63) rfl (tlt hc44).1 (by decide) (by decide) k) ?_
            show Go _ _ _ _ (s₁.setTop (mkF m 73 #[.val (.int y43), .val (.int ((((31 : Int32) + (-16 : Int32)) + (-8 : Int32)) + (-4 : Int32)))] []))
            refine Go.step (fun _ k => XS.iloadN X0.here hx rfl (hb hby d3_73) rfl k) ?_
            show Go _ _ _ _ (s₁.setTop (mkF m 74 #[.val (.int y43), .val (.int ((((31 : Int32) + (-16 : Int32)) + (-8 : Int32)) + (-4 : Int32)))] [(.int ((((31 : Int32) + (-16 : Int32)) + (-8 : Int32)) + (-4 : Int32)))]))
            refine Go.step (fun _ k => XS.iloadN X0.here hx rfl (hb hby d3_74) rfl k) ?_
            show Go _ _ _ _ (s₁.setTop (mkF m 75 #[.val (.int y43), .val (.int ((((31 : Int32) + (-16 : Int32)) + (-8 : Int32)) + (-4 : Int32)))] [(.int y43), (.int ((((31 : Int32) + (-16 : Int32)) + (-8 : Int32)) + (-4 : Int32)))]))
            refine Go.step (fun _ k => XS.iconst X0.here hx rfl (hb hby d3_75) k) ?_
            show Go _ _ _ _ (s₁.setTop (mkF m 76 #[.val (.int y43), .val (.int ((((31 : Int32) + (-16 : Int32)) + (-8 : Int32)) + (-4 : Int32)))] [(.int (1 : Int32)), (.int y43), (.int ((((31 : Int32) + (-16 : Int32)) + (-8 : Int32)) + (-4 : Int32)))]))
            refine Go.step (fun _ k => XS.iushr X0.here hx rfl (hb hby d3_76) rfl k) ?_
            show Go _ _ _ _ (s₁.setTop (mkF m 77 #[.val (.int y43), .val (.int ((((31 : Int32) + (-16 : Int32)) + (-8 : Int32)) + (-4 : Int32)))] [(.int ((y43.toUInt32 >>> ((1 : Int32) &&& 31).toUInt32).toInt32)), (.int ((((31 : Int32) + (-16 : Int32)) + (-8 : Int32)) + (-4 : Int32)))]))
            refine Go.step (fun _ k => XS.isub X0.here hx rfl (hb hby d3_77) rfl k) ?_
            show Go _ _ _ _ (s₁.setTop (mkF m 78 #[.val (.int y43), .val (.int ((((31 : Int32) + (-16 : Int32)) + (-8 : Int32)) + (-4 : Int32)))] [(.int (((((31 : Int32) + (-16 : Int32)) + (-8 : Int32)) + (-4 : Int32)) - ((y43.toUInt32 >>> ((1 : Int32) &&& 31).toUInt32).toInt32)))]))
            obtain ⟨t45, ht45⟩ : ∃ z, z = ((y43.toUInt32 >>> ((1 : Int32) &&& 31).toUInt32).toInt32) := ⟨_, rfl⟩
            rw [← ht45]
            have vt45 := own_shr y43 t45 1 1 2 (by decide) (by decide) rfl (by omega) ht45
            have st45 := c_isub ((((31 : Int32) + (-16 : Int32)) + (-8 : Int32)) + (-4 : Int32)) t45
            rw [show (((((31 : Int32) + (-16 : Int32)) + (-8 : Int32)) + (-4 : Int32))).toInt = 3 from rfl] at st45
            have lx := x0.toInt_lt
            have lt45 := (((((31 : Int32) + (-16 : Int32)) + (-8 : Int32)) + (-4 : Int32)) - t45).toInt_lt
            have mt45 := (((((31 : Int32) + (-16 : Int32)) + (-8 : Int32)) + (-4 : Int32)) - t45).le_toInt
            have qt45 : NLZ x0 (((((31 : Int32) + (-16 : Int32)) + (-8 : Int32)) + (-4 : Int32)) - t45) := by
              by_cases hy : y43.toInt = 1
              · exact own_nlz x0 _ 3 (by decide) (by omega) (by omega) 268435456 536870912 rfl rfl (by omega) (by omega)
              · exact own_nlz x0 _ 2 (by decide) (by omega) (by omega) 536870912 1073741824 rfl rfl (by omega) (by omega)
            exact leafI X0 hx hret hlk (hb hby d3_78) ⟨⟨_, rfl, qt45⟩, e0, rfl⟩ (by decide) (by decide)
          · have nhc44 := hc44
            rw [own_lt, (show (4 : Int32).toInt = 4 from rfl)] at nhc44
            refine Go.step (fun _ k => XS.icmpNo X0.here hx rfl (hb hby d3_63) rfl (flt hc44).1 k) ?_
            show Go _ _ _ _ (s₁.setTop (mkF m 66 #[.val (.int y43), .val (.int ((((31 : Int32) + (-16 : Int32)) + (-8 : Int32)) + (-4 : Int32)))] []))
            refine Go.step (fun _ k => XS.iinc X0.here hx rfl (hb hby d3_66) rfl (l' := #[.val (.int y43), .val (.int (((((31 : Int32) + (-16 : Int32)) + (-8 : Int32)) + (-4 : Int32)) + (-2 : Int32)))]) rfl k) ?_
            show Go _ _ _ _ (s₁.setTop (mkF m 69 #[.val (.int y43), .val (.int (((((31 : Int32) + (-16 : Int32)) + (-8 : Int32)) + (-4 : Int32)) + (-2 : Int32)))] []))
            refine Go.step (fun _ k => XS.iloadN X0.here hx rfl (hb hby d3_69) rfl k) ?_
            show Go _ _ _ _ (s₁.setTop (mkF m 70 #[.val (.int y43), .val (.int (((((31 : Int32) + (-16 : Int32)) + (-8 : Int32)) + (-4 : Int32)) + (-2 : Int32)))] [(.int y43)]))
            refine Go.step (fun _ k => XS.iconst X0.here hx rfl (hb hby d3_70) k) ?_
            show Go _ _ _ _ (s₁.setTop (mkF m 71 #[.val (.int y43), .val (.int (((((31 : Int32) + (-16 : Int32)) + (-8 : Int32)) + (-4 : Int32)) + (-2 : Int32)))] [(.int (2 : Int32)), (.int y43)]))
            refine Go.step (fun _ k => XS.iushr X0.here hx rfl (hb hby d3_71) rfl k) ?_
            show Go _ _ _ _ (s₁.setTop (mkF m 72 #[.val (.int y43), .val (.int (((((31 : Int32) + (-16 : Int32)) + (-8 : Int32)) + (-4 : Int32)) + (-2 : Int32)))] [(.int ((y43.toUInt32 >>> ((2 : Int32) &&& 31).toUInt32).toInt32))]))
            refine Go.step (fun _ k => XS.istoreN X0.here hx rfl (hb hby d3_72) rfl (l' := #[.val (.int ((y43.toUInt32 >>> ((2 : Int32) &&& 31).toUInt32).toInt32)), .val (.int (((((31 : Int32) + (-16 : Int32)) + (-8 : Int32)) + (-4 : Int32)) + (-2 : Int32)))]) rfl k) ?_
            show Go _ _ _ _ (s₁.setTop (mkF m 73 #[.val (.int ((y43.toUInt32 >>> ((2 : Int32) &&& 31).toUInt32).toInt32)), .val (.int (((((31 : Int32) + (-16 : Int32)) + (-8 : Int32)) + (-4 : Int32)) + (-2 : Int32)))] []))
            obtain ⟨y46, hy46⟩ : ∃ z, z = ((y43.toUInt32 >>> ((2 : Int32) &&& 31).toUInt32).toInt32) := ⟨_, rfl⟩
            rw [← hy46]
            have vy46 := own_shr y43 y46 2 2 4 (by decide) (by decide) rfl (by omega) hy46
            show Go _ _ _ _ (s₁.setTop (mkF m 73 #[.val (.int y46), .val (.int (((((31 : Int32) + (-16 : Int32)) + (-8 : Int32)) + (-4 : Int32)) + (-2 : Int32)))] []))
            refine Go.step (fun _ k => XS.iloadN X0.here hx rfl (hb hby d3_73) rfl k) ?_
            show Go _ _ _ _ (s₁.setTop (mkF m 74 #[.val (.int y46), .val (.int (((((31 : Int32) + (-16 : Int32)) + (-8 : Int32)) + (-4 : Int32)) + (-2 : Int32)))] [(.int (((((31 : Int32) + (-16 : Int32)) + (-8 : Int32)) + (-4 : Int32)) + (-2 : Int32)))]))
            refine Go.step (fun _ k => XS.iloadN X0.here hx rfl (hb hby d3_74) rfl k) ?_
            show Go _ _ _ _ (s₁.setTop (mkF m 75 #[.val (.int y46), .val (.int (((((31 : Int32) + (-16 : Int32)) + (-8 : Int32)) + (-4 : Int32)) + (-2 : Int32)))] [(.int y46), (.int (((((31 : Int32) + (-16 : Int32)) + (-8 : Int32)) + (-4 : Int32)) + (-2 : Int32)))]))
            refine Go.step (fun _ k => XS.iconst X0.here hx rfl (hb hby d3_75) k) ?_
            show Go _ _ _ _ (s₁.setTop (mkF m 76 #[.val (.int y46), .val (.int (((((31 : Int32) + (-16 : Int32)) + (-8 : Int32)) + (-4 : Int32)) + (-2 : Int32)))] [(.int (1 : Int32)), (.int y46), (.int (((((31 : Int32) + (-16 : Int32)) + (-8 : Int32)) + (-4 : Int32)) + (-2 : Int32)))]))
            refine Go.step (fun _ k => XS.iushr X0.here hx rfl (hb hby d3_76) rfl k) ?_
            show Go _ _ _ _ (s₁.setTop (mkF m 77 #[.val (.int y46), .val (.int (((((31 : Int32) + (-16 : Int32)) + (-8 : Int32)) + (-4 : Int32)) + (-2 : Int32)))] [(.int ((y46.toUInt32 >>> ((1 : Int32) &&& 31).toUInt32).toInt32)), (.int (((((31 : Int32) + (-16 : Int32)) + (-8 : Int32)) + (-4 : Int32)) + (-2 : Int32)))]))
            refine Go.step (fun _ k => XS.isub X0.here hx rfl (hb hby d3_77) rfl k) ?_
            show Go _ _ _ _ (s₁.setTop (mkF m 78 #[.val (.int y46), .val (.int (((((31 : Int32) + (-16 : Int32)) + (-8 : Int32)) + (-4 : Int32)) + (-2 : Int32)))] [(.int ((((((31 : Int32) + (-16 : Int32)) + (-8 : Int32)) + (-4 : Int32)) + (-2 : Int32)) - ((y46.toUInt32 >>> ((1 : Int32) &&& 31).toUInt32).toInt32)))]))
            obtain ⟨t47, ht47⟩ : ∃ z, z = ((y46.toUInt32 >>> ((1 : Int32) &&& 31).toUInt32).toInt32) := ⟨_, rfl⟩
            rw [← ht47]
            have vt47 := own_shr y46 t47 1 1 2 (by decide) (by decide) rfl (by omega) ht47
            have st47 := c_isub (((((31 : Int32) + (-16 : Int32)) + (-8 : Int32)) + (-4 : Int32)) + (-2 : Int32)) t47
            rw [show ((((((31 : Int32) + (-16 : Int32)) + (-8 : Int32)) + (-4 : Int32)) + (-2 : Int32))).toInt = 1 from rfl] at st47
            have lx := x0.toInt_lt
            have lt47 := ((((((31 : Int32) + (-16 : Int32)) + (-8 : Int32)) + (-4 : Int32)) + (-2 : Int32)) - t47).toInt_lt
            have mt47 := ((((((31 : Int32) + (-16 : Int32)) + (-8 : Int32)) + (-4 : Int32)) + (-2 : Int32)) - t47).le_toInt
            have qt47 : NLZ x0 ((((((31 : Int32) + (-16 : Int32)) + (-8 : Int32)) + (-4 : Int32)) + (-2 : Int32)) - t47) := by
              by_cases hy : y46.toInt = 1
              · exact own_nlz x0 _ 1 (by decide) (by omega) (by omega) 1073741824 2147483648 rfl rfl (by omega) (by omega)
              · exact own_nlz x0 _ 0 (by decide) (by omega) (by omega) 2147483648 4294967296 rfl rfl (by omega) (by omega)
            exact leafI X0 hx hret hlk (hb hby d3_78) ⟨⟨_, rfl, qt47⟩, e0, rfl⟩ (by decide) (by decide)
  · have nhc1 := hc1
    rw [own_lt, own_z] at nhc1
    refine Go.step (fun _ k => XS.ifNo X0.here hx rfl (hb hby d3_1) rfl ((if0 _ _).trans (flt hc1).2.2.1) k) ?_
    show Go _ _ _ _ (s₁.setTop (mkF m 4 #[.val (.int x0), .unset] []))
    refine Go.step (fun _ k => XS.iloadN X0.here hx rfl (hb hby d3_4) rfl k) ?_
    show Go _ _ _ _ (s₁.setTop (mkF m 5 #[.val (.int x0), .unset] [(.int x0)]))
    by_cases hc48 : x0 = (0 : Int32)
    · refine Go.step (fun _ k => XS.ifNo X0.here hx rfl (hb hby d3_5) rfl ((if0 _ _).trans (teq hc48).2) k) ?_
      show Go _ _ _ _ (s₁.setTop (mkF m 8 #[.val (.int x0), .unset] []))
      refine Go.step (fun _ k => XS.bipush X0.here hx rfl (hb hby d3_8) k) ?_
      show Go _ _ _ _ (s₁.setTop (mkF m 10 #[.val (.int x0), .unset] [(.int (32 : Int32))]))
      refine Go.step (fun _ k => XS.goto X0.here hx rfl (pc0 := 10) (pc' := 14) rfl (hb hby d3_10) (by decide) (by decide) k) ?_
      show Go _ _ _ _ (s₁.setTop (mkF m 14 #[.val (.int x0), .unset] [(.int (32 : Int32))]))
      exact leafI X0 hx hret hlk (hb hby d3_14) ⟨⟨_, rfl, fun _ => rfl, fun q => by rw [hc48] at q; exact absurd q (by decide), fun q => by omega⟩, e0, rfl⟩ (by decide) (by decide)
    · refine Go.step (fun _ k => XS.ifYes X0.here hx rfl (pc0 := 5) (pc' := 13) rfl (hb hby d3_5) rfl ((if0 _ _).trans (feq hc48).2) (by decide) (by decide) k) ?_
      show Go _ _ _ _ (s₁.setTop (mkF m 13 #[.val (.int x0), .unset] []))
      refine Go.step (fun _ k => XS.iconst X0.here hx rfl (hb hby d3_13) k) ?_
      show Go _ _ _ _ (s₁.setTop (mkF m 14 #[.val (.int x0), .unset] [(.int (0 : Int32))]))
      exact leafI X0 hx hret hlk (hb hby d3_14) ⟨⟨_, rfl, fun q => absurd q hc48, fun _ => rfl, fun q => by omega⟩, e0, rfl⟩ (by decide) (by decide)
set_option maxRecDepth 65536 in
set_option maxHeartbeats 40000000 in
theorem rm2 (l : Launch) (Z : State) (a0 : Array Value) (hw : ∀ d ∈ tables_1, d.before a0 Z = true) (ws : List Jvm.Cond) (x0 : Int64) (h0 : Heap) (P0 : 0 < x0.toInt) : Con l Z (⟨"java/lang/Long", "numberOfLeadingZeros", "(J)I"⟩ : MethodName) jdk_35_method_48_code 3 (some .int) ws ({ frames := 1, cells := 0, slots := 0, locals := 14 } : Room) #[(.long x0)] h0 (fun v h L => (∃ k : Int32, v = some (.int k) ∧ NLZL x0 k) ∧ h = h0 ∧ L = []) := by
  refine Con.of pn2 fun p e s m below meth c s₁ hZ hx hby hml hown hret hlk hnm X0 e0 => ?_
  rw [ef2]
  show Go _ _ _ _ (s₁.setTop (mkF m 0 #[.val (.long x0), .second, .unset] []))
  refine Go.step (fun _ k => XS.lloadN X0.here hx rfl (hb hby d2_0) rfl k) ?_
  show Go _ _ _ _ (s₁.setTop (mkF m 1 #[.val (.long x0), .second, .unset] [(.long x0)]))
  refine Go.step (fun _ k => XS.bipush X0.here hx rfl (hb hby d2_1) k) ?_
  show Go _ _ _ _ (s₁.setTop (mkF m 3 #[.val (.long x0), .second, .unset] [(.int (32 : Int32)), (.long x0)]))
  refine Go.step (fun _ k => XS.lushr X0.here hx rfl (hb hby d2_3) rfl k) ?_
  show Go _ _ _ _ (s₁.setTop (mkF m 4 #[.val (.long x0), .second, .unset] [(.long ((x0.toUInt64 >>> ((32 : Int32) &&& 0x3f).toInt64.toUInt64).toInt64))]))
  refine Go.step (fun _ k => XS.l2i X0.here hx rfl (hb hby d2_4) rfl k) ?_
  show Go _ _ _ _ (s₁.setTop (mkF m 5 #[.val (.long x0), .second, .unset] [(.int (((x0.toUInt64 >>> ((32 : Int32) &&& 0x3f).toInt64.toUInt64).toInt64).toInt32))]))
  refine Go.step (fun _ k => XS.istoreN X0.here hx rfl (hb hby d2_5) rfl (l' := #[.val (.long x0), .second, .val (.int (((x0.toUInt64 >>> ((32 : Int32) &&& 0x3f).toInt64.toUInt64).toInt64).toInt32))]) rfl k) ?_
  show Go _ _ _ _ (s₁.setTop (mkF m 6 #[.val (.long x0), .second, .val (.int (((x0.toUInt64 >>> ((32 : Int32) &&& 0x3f).toInt64.toUInt64).toInt64).toInt32))] []))
  obtain ⟨hi, hhi⟩ : ∃ z, z = (((x0.toUInt64 >>> ((32 : Int32) &&& 0x3f).toInt64.toUInt64).toInt64).toInt32) := ⟨_, rfl⟩
  rw [← hhi]
  have vhi : hi.toInt = x0.toInt / 4294967296 := by rw [hhi]; exact own_hi x0 P0
  show Go _ _ _ _ (s₁.setTop (mkF m 6 #[.val (.long x0), .second, .val (.int hi)] []))
  refine Go.step (fun _ k => XS.iloadN X0.here hx rfl (hb hby d2_6) rfl k) ?_
  show Go _ _ _ _ (s₁.setTop (mkF m 7 #[.val (.long x0), .second, .val (.int hi)] [(.int hi)]))
  by_cases hc1 : hi = (0 : Int32)
  · refine Go.step (fun _ k => XS.ifNo X0.here hx rfl (hb hby d2_7) rfl ((if0 _ _).trans (teq hc1).2) k) ?_
    show Go _ _ _ _ (s₁.setTop (mkF m 10 #[.val (.long x0), .second, .val (.int hi)] []))
    refine Go.step (fun _ k => XS.bipush X0.here hx rfl (hb hby d2_10) k) ?_
    show Go _ _ _ _ (s₁.setTop (mkF m 12 #[.val (.long x0), .second, .val (.int hi)] [(.int (32 : Int32))]))
    refine Go.step (fun _ k => XS.lloadN X0.here hx rfl (hb hby d2_12) rfl k) ?_
    show Go _ _ _ _ (s₁.setTop (mkF m 13 #[.val (.long x0), .second, .val (.int hi)] [(.long x0), (.int (32 : Int32))]))
    refine Go.step (fun _ k => XS.l2i X0.here hx rfl (hb hby d2_13) rfl k) ?_
    show Go _ _ _ _ (s₁.setTop (mkF m 14 #[.val (.long x0), .second, .val (.int hi)] [(.int (x0.toInt32)), (.int (32 : Int32))]))
    refine goS X0 hx hZ hown (hw _ (List.mem_of_getElem? (i := 9) rfl)) (hw _ (List.mem_of_getElem? (i := 10) rfl)) (hw _ (List.mem_of_getElem? (i := 11) rfl)) (hw _ (List.mem_of_getElem? (i := 12) rfl)) (by decide) (rm3 l Z a0 hw [] (x0.toInt32) h0) e0 (by rw [hml]; rfl) [(.int (x0.toInt32))] [(.int (32 : Int32))] rfl pd3 rfl rfl 1 rfl (hb hby d2_14) (by decide) (by decide) (by decide) (by decide) fun T2 L2 v2 q2 X2 => ?_
    obtain ⟨⟨kk, rfl, hk⟩, e2, rfl⟩ := q2
    rw [List.append_nil] at X2
    show Go _ _ _ _ (T2.setTop (mkF m 17 #[.val (.long x0), .second, .val (.int hi)] [(.int kk), (.int (32 : Int32))]))
    refine Go.step (fun _ k => XS.iadd X2.here hx rfl (hb hby d2_17) rfl k) ?_
    show Go _ _ _ _ (T2.setTop (mkF m 18 #[.val (.long x0), .second, .val (.int hi)] [(.int ((32 : Int32) + kk))]))
    refine Go.step (fun _ k => XS.goto X2.here hx rfl (pc0 := 18) (pc' := 25) rfl (hb hby d2_18) (by decide) (by decide) k) ?_
    show Go _ _ _ _ (T2.setTop (mkF m 25 #[.val (.long x0), .second, .val (.int hi)] [(.int ((32 : Int32) + kk))]))
    exact leafI X2 hx hret hlk (hb hby d2_25) ⟨⟨_, rfl, own_Llo x0 hi kk _ P0 vhi hc1 hk rfl⟩, e2, rfl⟩ (by decide) (by decide)
  · refine Go.step (fun _ k => XS.ifYes X0.here hx rfl (pc0 := 7) (pc' := 21) rfl (hb hby d2_7) rfl ((if0 _ _).trans (feq hc1).2) (by decide) (by decide) k) ?_
    show Go _ _ _ _ (s₁.setTop (mkF m 21 #[.val (.long x0), .second, .val (.int hi)] []))
    refine Go.step (fun _ k => XS.iloadN X0.here hx rfl (hb hby d2_21) rfl k) ?_
    show Go _ _ _ _ (s₁.setTop (mkF m 22 #[.val (.long x0), .second, .val (.int hi)] [(.int hi)]))
    refine goS X0 hx hZ hown (hw _ (List.mem_of_getElem? (i := 9) rfl)) (hw _ (List.mem_of_getElem? (i := 10) rfl)) (hw _ (List.mem_of_getElem? (i := 11) rfl)) (hw _ (List.mem_of_getElem? (i := 12) rfl)) (by decide) (rm3 l Z a0 hw [] hi h0) e0 (by rw [hml]; rfl) [(.int hi)] [] rfl pd3 rfl rfl 0 rfl (hb hby d2_22) (by decide) (by decide) (by decide) (by decide) fun T3 L3 v3 q3 X3 => ?_
    obtain ⟨⟨kk, rfl, hk⟩, e3, rfl⟩ := q3
    rw [List.append_nil] at X3
    show Go _ _ _ _ (T3.setTop (mkF m 25 #[.val (.long x0), .second, .val (.int hi)] [(.int kk)]))
    exact leafI X3 hx hret hlk (hb hby d2_25) ⟨⟨_, rfl, own_Lhi x0 hi kk P0 vhi hc1 hk⟩, e3, rfl⟩ (by decide) (by decide)
set_option maxRecDepth 65536 in
set_option maxHeartbeats 40000000 in
theorem rm4 (l : Launch) (Z : State) (a0 : Array Value) (hw : ∀ d ∈ tables_1, d.before a0 Z = true) (ws : List Jvm.Cond) (x0 : Addr) (x1 : Int64) (x2 : Int32) (h0 : Heap) (n0 : Nat) (g0 : n0 ≤ x0) (E0 : Exa Z h0 x0 "com/example/hearthline/hearthline/BinaryEstimate") (Fm : Fld Z h0 x0 "com/example/hearthline/hearthline/BinaryEstimate" "mantissa" "J" (.long (0 : Int64))) (Fe : Fld Z h0 x0 "com/example/hearthline/hearthline/BinaryEstimate" "exponent" "I" (.int (0 : Int32))) : Con l Z (⟨"com/example/hearthline/hearthline/BinaryEstimate", "<init>", "(JI)V"⟩ : MethodName) prog_3_method_1_code 4 none ws ({ frames := 1, cells := 0, slots := 0, locals := 12 } : Room) #[(.ref x0), (.long x1), (.int x2)] h0 (fun v h L => v = none ∧ Fr n0 L ∧ Keep h0 h [x0] ∧ Exa Z h x0 "com/example/hearthline/hearthline/BinaryEstimate" ∧ Fld Z h x0 "com/example/hearthline/hearthline/BinaryEstimate" "mantissa" "J" (.long x1) ∧ Fld Z h x0 "com/example/hearthline/hearthline/BinaryEstimate" "exponent" "I" (.int x2)) := by
  refine Con.of pn4 fun p e s m below meth c s₁ hZ hx hby hml hown hret hlk hnm X0 e0 => ?_
  rw [ef4]
  show Go _ _ _ _ (s₁.setTop (mkF m 0 #[.val (.ref x0), .val (.long x1), .second, .val (.int x2)] []))
  refine Go.step (fun _ k => XS.aloadN X0.here hx rfl (hb hby d4_0) rfl rfl k) ?_
  show Go _ _ _ _ (s₁.setTop (mkF m 1 #[.val (.ref x0), .val (.long x1), .second, .val (.int x2)] [(.ref x0)]))
  obtain ⟨T1, X1, e1, st1⟩ := initO X0 hx hZ hown (hw _ (List.mem_of_getElem? (i := 19) rfl)) (hw _ (List.mem_of_getElem? (i := 20) rfl)) (hw _ (List.mem_of_getElem? (i := 21) rfl)) e0 (g := (mkF m 1 #[.val (.ref x0), .val (.long x1), .second, .val (.int x2)] [(.ref x0)])) rfl (by rw [hml]; rfl) rfl (hb hby d4_1) (by decide) (W := 0) (by show 2 * 0 + _ ≤ _; exact Nat.le_of_eq rfl) (by decide)
  refine Go.step st1 ?_
  show Go _ _ _ _ (T1.setTop (mkF m 4 #[.val (.ref x0), .val (.long x1), .second, .val (.int x2)] []))
  refine Go.step (fun _ k => XS.aloadN X1.here hx rfl (hb hby d4_4) rfl rfl k) ?_
  show Go _ _ _ _ (T1.setTop (mkF m 5 #[.val (.ref x0), .val (.long x1), .second, .val (.int x2)] [(.ref x0)]))
  refine Go.step (fun _ k => XS.lloadN X1.here hx rfl (hb hby d4_5) rfl k) ?_
  show Go _ _ _ _ (T1.setTop (mkF m 6 #[.val (.ref x0), .val (.long x1), .second, .val (.int x2)] [(.long x1), (.ref x0)]))
  obtain ⟨T2, h2, X2, e2, W2, st2⟩ := putF X1 hx hZ hown (host := "") (Or.inl (hw _ (List.mem_of_getElem? (i := 22) rfl))) Via.refl e1 Fm E0 (Or.inr ⟨(hw _ (List.mem_of_getElem? (i := 23) rfl)), rfl, hnm⟩) (hw _ (List.mem_of_getElem? (i := 15) rfl)) (ty := .long) (by decide) rfl rfl (g := (mkF m 6 #[.val (.ref x0), .val (.long x1), .second, .val (.int x2)] [(.long x1), (.ref x0)])) rfl rfl (hb hby d4_6)
  have F2_mantissa := Fm.same W2
  have F2_exponent := Fe.other W2 (Or.inr (slot_ne (Or.inr (hw _ (List.mem_of_getElem? (i := 25) rfl))) (Or.inr (hw _ (List.mem_of_getElem? (i := 23) rfl))) (by decide) (t := .int) (t' := .long) (by decide) (by decide)))
  have E_2 := E0.wr W2
  have NF2 := Fr.snoc X2 (Fr.nil n0) g0
  refine Go.step st2 ?_
  have K2 := (Keep.refl h0 [x0]).wr W2 (Or.inl (List.mem_of_getElem? (i := 0) rfl))
  show Go _ _ _ _ (T2.setTop (mkF m 9 #[.val (.ref x0), .val (.long x1), .second, .val (.int x2)] []))
  refine Go.step (fun _ k => XS.aloadN X2.here hx rfl (hb hby d4_9) rfl rfl k) ?_
  show Go _ _ _ _ (T2.setTop (mkF m 10 #[.val (.ref x0), .val (.long x1), .second, .val (.int x2)] [(.ref x0)]))
  refine Go.step (fun _ k => XS.iloadN X2.here hx rfl (hb hby d4_10) rfl k) ?_
  show Go _ _ _ _ (T2.setTop (mkF m 11 #[.val (.ref x0), .val (.long x1), .second, .val (.int x2)] [(.int x2), (.ref x0)]))
  obtain ⟨T3, h3, X3, e3, W3, st3⟩ := putF X2 hx hZ hown (host := "") (Or.inl (hw _ (List.mem_of_getElem? (i := 24) rfl))) Via.refl e2 F2_exponent E_2 (Or.inr ⟨(hw _ (List.mem_of_getElem? (i := 25) rfl)), rfl, hnm⟩) (hw _ (List.mem_of_getElem? (i := 15) rfl)) (ty := .int) (by decide) rfl rfl (g := (mkF m 11 #[.val (.ref x0), .val (.long x1), .second, .val (.int x2)] [(.int x2), (.ref x0)])) rfl rfl (hb hby d4_11)
  have F3_mantissa := F2_mantissa.other W3 (Or.inr (slot_ne (Or.inr (hw _ (List.mem_of_getElem? (i := 23) rfl))) (Or.inr (hw _ (List.mem_of_getElem? (i := 25) rfl))) (by decide) (t := .long) (t' := .int) (by decide) (by decide)))
  have F3_exponent := F2_exponent.same W3
  have E_3 := E_2.wr W3
  have NF3 := Fr.snoc X3 NF2 g0
  refine Go.step st3 ?_
  have K3 := K2.wr W3 (Or.inl (List.mem_of_getElem? (i := 0) rfl))
  show Go _ _ _ _ (T3.setTop (mkF m 14 #[.val (.ref x0), .val (.long x1), .second, .val (.int x2)] []))
  exact leafV X3 hx hret hlk (hb hby d4_14) ⟨rfl, NF3, by rw [e3]; exact K3, by rw [e3]; exact E_3, by rw [e3]; exact F3_mantissa, by rw [e3]; exact F3_exponent⟩ (by decide) (by decide)
set_option maxRecDepth 65536 in
set_option maxHeartbeats 40000000 in
theorem rm6 (l : Launch) (Z : State) (a0 : Array Value) (hw : ∀ d ∈ tables_1, d.before a0 Z = true) (ws : List Jvm.Cond) (x0 : Addr) (h0 : Heap) (u : Int64) (F0 : Fld Z h0 x0 "com/example/hearthline/hearthline/BinaryEstimate" "mantissa" "J" (.long u)) : Con l Z (⟨"com/example/hearthline/hearthline/BinaryEstimate", "mantissa", "()J"⟩ : MethodName) prog_3_method_3_code 1 (some .long) ws ({ frames := 0, cells := 0, slots := 0, locals := 0 } : Room) #[(.ref x0)] h0 (fun v h L => v = some (.long u) ∧ h = h0 ∧ L = []) := by
  refine Con.of pn6 fun p e s m below meth c s₁ hZ hx hby hml hown hret hlk hnm X0 e0 => ?_
  rw [ef6]
  show Go _ _ _ _ (s₁.setTop (mkF m 0 #[.val (.ref x0)] []))
  refine Go.step (fun _ k => XS.aloadN X0.here hx rfl (hb hby d6_0) rfl rfl k) ?_
  show Go _ _ _ _ (s₁.setTop (mkF m 1 #[.val (.ref x0)] [(.ref x0)]))
  obtain ⟨T1, X1, e1, st1⟩ := getF X0 hx hZ hown (host := "") (Or.inl (hw _ (List.mem_of_getElem? (i := 22) rfl))) Via.refl e0 F0 (g := (mkF m 1 #[.val (.ref x0)] [(.ref x0)])) rfl rfl (hb hby d6_1)
  refine Go.step st1 ?_
  show Go _ _ _ _ (T1.setTop (mkF m 4 #[.val (.ref x0)] [(.long u)]))
  exact leafJ X1 hx hret hlk (hb hby d6_4) ⟨rfl, e1, rfl⟩ (by decide) (by decide)
set_option maxRecDepth 65536 in
set_option maxHeartbeats 40000000 in
theorem rm7 (l : Launch) (Z : State) (a0 : Array Value) (hw : ∀ d ∈ tables_1, d.before a0 Z = true) (ws : List Jvm.Cond) (x0 : Addr) (h0 : Heap) (u : Int32) (F0 : Fld Z h0 x0 "com/example/hearthline/hearthline/BinaryEstimate" "exponent" "I" (.int u)) : Con l Z (⟨"com/example/hearthline/hearthline/BinaryEstimate", "exponent", "()I"⟩ : MethodName) prog_3_method_4_code 1 (some .int) ws ({ frames := 0, cells := 0, slots := 0, locals := 0 } : Room) #[(.ref x0)] h0 (fun v h L => v = some (.int u) ∧ h = h0 ∧ L = []) := by
  refine Con.of pn7 fun p e s m below meth c s₁ hZ hx hby hml hown hret hlk hnm X0 e0 => ?_
  rw [ef7]
  show Go _ _ _ _ (s₁.setTop (mkF m 0 #[.val (.ref x0)] []))
  refine Go.step (fun _ k => XS.aloadN X0.here hx rfl (hb hby d7_0) rfl rfl k) ?_
  show Go _ _ _ _ (s₁.setTop (mkF m 1 #[.val (.ref x0)] [(.ref x0)]))
  obtain ⟨T1, X1, e1, st1⟩ := getF X0 hx hZ hown (host := "") (Or.inl (hw _ (List.mem_of_getElem? (i := 24) rfl))) Via.refl e0 F0 (g := (mkF m 1 #[.val (.ref x0)] [(.ref x0)])) rfl rfl (hb hby d7_1)
  refine Go.step st1 ?_
  show Go _ _ _ _ (T1.setTop (mkF m 4 #[.val (.ref x0)] [(.int u)]))
  exact leafI X1 hx hret hlk (hb hby d7_4) ⟨rfl, e1, rfl⟩ (by decide) (by decide)
set_option maxRecDepth 65536 in
set_option maxHeartbeats 40000000 in
theorem rm1 (l : Launch) (Z : State) (a0 : Array Value) (hw : ∀ d ∈ tables_1, d.before a0 Z = true) (ws : List Jvm.Cond) (x0 : Int64) (h0 : Heap) (P0 : 0 < x0.toInt) (n0 : Nat) (Z0 : n0 ≤ h0.size) : Con l Z (⟨"com/example/hearthline/hearthline/BinaryEstimate", "of", "(J)Lcom/example/hearthline/hearthline/BinaryEstimate;"⟩ : MethodName) prog_3_method_2_code 3 (some (.object "com/example/hearthline/hearthline/BinaryEstimate")) ws ({ frames := 2, cells := 1, slots := 2, locals := 32 } : Room) #[(.long x0)] h0 (fun v h L => ∃ (b : Addr) (mm : Int64) (q : Int32), v = some (.ref b) ∧ Fr n0 L ∧ Exa Z h b "com/example/hearthline/hearthline/BinaryEstimate" ∧ Fld Z h b "com/example/hearthline/hearthline/BinaryEstimate" "mantissa" "J" (.long mm) ∧ Fld Z h b "com/example/hearthline/hearthline/BinaryEstimate" "exponent" "I" (.int (-q)) ∧ MAN x0 mm q) := by
  refine Con.of pn1 fun p e s m below meth c s₁ hZ hx hby hml hown hret hlk hnm X0 e0 => ?_
  rw [ef1]
  show Go _ _ _ _ (s₁.setTop (mkF m 0 #[.val (.long x0), .second, .unset] []))
  refine Go.step (fun _ k => XS.lloadN X0.here hx rfl (hb hby d1_0) rfl k) ?_
  show Go _ _ _ _ (s₁.setTop (mkF m 1 #[.val (.long x0), .second, .unset] [(.long x0)]))
  refine Go.step (fun _ k => XS.lconst X0.here hx rfl (hb hby d1_1) k) ?_
  show Go _ _ _ _ (s₁.setTop (mkF m 2 #[.val (.long x0), .second, .unset] [(.long (0 : Int64)), (.long x0)]))
  refine Go.step (fun _ k => XS.lcmp X0.here hx rfl (hb hby d1_2) rfl k) ?_
  show Go _ _ _ _ (s₁.setTop (mkF m 3 #[.val (.long x0), .second, .unset] [(.int (lcmpW x0 (0 : Int64)))]))
  refine Go.step (fun _ k => XS.ifYes X0.here hx rfl (pc0 := 3) (pc' := 20) rfl (hb hby d1_3) rfl ((if0 _ _).trans (tlt ((lw_gt _ _).mpr (show ((0 : Int64) < x0) from (by rw [Int64.lt_iff_toInt_lt]; exact P0)))).2.2.1) (by decide) (by decide) k) ?_
  show Go _ _ _ _ (s₁.setTop (mkF m 20 #[.val (.long x0), .second, .unset] []))
  refine Go.step (fun _ k => XS.lloadN X0.here hx rfl (hb hby d1_20) rfl k) ?_
  show Go _ _ _ _ (s₁.setTop (mkF m 21 #[.val (.long x0), .second, .unset] [(.long x0)]))
  refine goS X0 hx hZ hown (hw _ (List.mem_of_getElem? (i := 5) rfl)) (hw _ (List.mem_of_getElem? (i := 6) rfl)) (hw _ (List.mem_of_getElem? (i := 7) rfl)) (hw _ (List.mem_of_getElem? (i := 8) rfl)) (by decide) (rm2 l Z a0 hw [] x0 h0 P0) e0 (by rw [hml]; rfl) [(.long x0)] [] rfl pd2 rfl rfl 0 rfl (hb hby d1_21) (by decide) (by decide) (by decide) (by decide) fun T1 L1 v1 q1 X1 => ?_
  obtain ⟨⟨kk, rfl, hk⟩, e1, rfl⟩ := q1
  rw [List.append_nil] at X1
  show Go _ _ _ _ (T1.setTop (mkF m 24 #[.val (.long x0), .second, .unset] [(.int kk)]))
  refine Go.step (fun _ k => XS.iconst X1.here hx rfl (hb hby d1_24) k) ?_
  show Go _ _ _ _ (T1.setTop (mkF m 25 #[.val (.long x0), .second, .unset] [(.int (1 : Int32)), (.int kk)]))
  refine Go.step (fun _ k => XS.isub X1.here hx rfl (hb hby d1_25) rfl k) ?_
  show Go _ _ _ _ (T1.setTop (mkF m 26 #[.val (.long x0), .second, .unset] [(.int (kk - (1 : Int32)))]))
  refine Go.step (fun _ k => XS.istoreN X1.here hx rfl (hb hby d1_26) rfl (l' := #[.val (.long x0), .second, .val (.int (kk - (1 : Int32)))]) rfl k) ?_
  show Go _ _ _ _ (T1.setTop (mkF m 27 #[.val (.long x0), .second, .val (.int (kk - (1 : Int32)))] []))
  obtain ⟨T2, h2, X2, e2, E2, A2, D2, -, st2⟩ := newO X1 hx hZ hown (hw _ (List.mem_of_getElem? (i := 14) rfl)) (hw _ (List.mem_of_getElem? (i := 15) rfl)) (hw _ (List.mem_of_getElem? (i := 3) rfl)) e1 (g := (mkF m 27 #[.val (.long x0), .second, .val (.int (kk - (1 : Int32)))] [])) rfl (hb hby d1_27) (by decide) (by decide)
  obtain ⟨b2, g2⟩ : ∃ z, z = h0.size := ⟨_, rfl⟩
  rw [← g2] at A2 D2 st2
  have F2_mantissa : Fld Z h2 b2 "com/example/hearthline/hearthline/BinaryEstimate" "mantissa" "J" (.long (0 : Int64)) := D2 (Or.inr (hw _ (List.mem_of_getElem? (i := 23) rfl))) (ty := .long) (by decide)
  have F2_exponent : Fld Z h2 b2 "com/example/hearthline/hearthline/BinaryEstimate" "exponent" "I" (.int (0 : Int32)) := D2 (Or.inr (hw _ (List.mem_of_getElem? (i := 25) rfl))) (ty := .int) (by decide)
  refine Go.step st2 ?_
  have gb : n0 ≤ b2 := Nat.le_trans Z0 (Nat.le_of_eq g2.symm)
  show Go _ _ _ _ (T2.setTop (mkF m 30 #[.val (.long x0), .second, .val (.int (kk - (1 : Int32)))] [(.ref b2)]))
  refine Go.step (fun _ k => XS.dup X2.here hx rfl (hb hby d1_30) rfl rfl k) ?_
  show Go _ _ _ _ (T2.setTop (mkF m 31 #[.val (.long x0), .second, .val (.int (kk - (1 : Int32)))] [(.ref b2), (.ref b2)]))
  refine Go.step (fun _ k => XS.lloadN X2.here hx rfl (hb hby d1_31) rfl k) ?_
  show Go _ _ _ _ (T2.setTop (mkF m 32 #[.val (.long x0), .second, .val (.int (kk - (1 : Int32)))] [(.long x0), (.ref b2), (.ref b2)]))
  refine Go.step (fun _ k => XS.iloadN X2.here hx rfl (hb hby d1_32) rfl k) ?_
  show Go _ _ _ _ (T2.setTop (mkF m 33 #[.val (.long x0), .second, .val (.int (kk - (1 : Int32)))] [(.int (kk - (1 : Int32))), (.long x0), (.ref b2), (.ref b2)]))
  refine Go.step (fun _ k => XS.lshl X2.here hx rfl (hb hby d1_33) rfl k) ?_
  show Go _ _ _ _ (T2.setTop (mkF m 34 #[.val (.long x0), .second, .val (.int (kk - (1 : Int32)))] [(.long (x0 <<< ((kk - (1 : Int32)) &&& 0x3f).toInt64)), (.ref b2), (.ref b2)]))
  refine Go.step (fun _ k => XS.iloadN X2.here hx rfl (hb hby d1_34) rfl k) ?_
  show Go _ _ _ _ (T2.setTop (mkF m 35 #[.val (.long x0), .second, .val (.int (kk - (1 : Int32)))] [(.int (kk - (1 : Int32))), (.long (x0 <<< ((kk - (1 : Int32)) &&& 0x3f).toInt64)), (.ref b2), (.ref b2)]))
  refine Go.step (fun _ k => XS.ineg X2.here hx rfl (hb hby d1_35) rfl k) ?_
  show Go _ _ _ _ (T2.setTop (mkF m 36 #[.val (.long x0), .second, .val (.int (kk - (1 : Int32)))] [(.int ((-(kk - (1 : Int32))))), (.long (x0 <<< ((kk - (1 : Int32)) &&& 0x3f).toInt64)), (.ref b2), (.ref b2)]))
  have hM := own_man x0 kk P0 hk
  refine goI X2 hx hZ rfl hown (hw _ (List.mem_of_getElem? (i := 16) rfl)) (hw _ (List.mem_of_getElem? (i := 17) rfl)) (hw _ (List.mem_of_getElem? (i := 3) rfl)) (hw _ (List.mem_of_getElem? (i := 18) rfl)) (by decide) (rm4 l Z a0 hw [] b2 (x0 <<< ((kk - (1 : Int32)) &&& 0x3f).toInt64) ((-(kk - (1 : Int32)))) h2 n0 gb A2 F2_mantissa F2_exponent) e2 (by rw [hml]; rfl) b2 [(.long (x0 <<< ((kk - (1 : Int32)) &&& 0x3f).toInt64)), (.int ((-(kk - (1 : Int32)))))] [(.ref b2)] rfl pd4 rfl rfl 1 rfl (hb hby d1_36) (by decide) (by decide) (by decide) (by decide) fun TC LC vC qC XC => ?_
  obtain ⟨rfl, NC, KC, EC, FmC, FeC⟩ := qC
  show Go _ _ _ _ (TC.setTop (mkF m 39 #[.val (.long x0), .second, .val (.int (kk - (1 : Int32)))] [(.ref b2)]))
  exact leafA XC hx hret rfl hlk rfl rfl (hb hby d1_39) ⟨b2, _, _, rfl, NC, EC, FmC, FeC, hM⟩ (by decide) (by decide)
theorem pn0 : plainFor x = true := plainFor_of_name (by first | (simp [plainName, overriddenIn, x]; done) | decide +kernel)
theorem ef0 (m : MethodId) (x0 : Int64) (x1 : Int32) : entryFrame m #[(.long x0), (.int x1)] maxLocals = mkF m 0 #[.val (.long x0), .second, .val (.int x1), .unset, .unset, .unset, .unset, .unset, .unset, .unset] [] := by first | (simp [entryFrame, mkF, argsToLocals, Value.category, maxLocals]; done) | rfl
set_option maxRecDepth 65536 in
set_option maxHeartbeats 40000000 in
theorem rm0 (l : Launch) (Z : State) (a0 : Array Value) (hw : ∀ d ∈ tables_1, d.before a0 Z = true) (ws : List Jvm.Cond) (x0 : Int64) (x1 : Int32) (h0 : Heap) : Con l Z x code maxLocals ret ws room_1 #[(.long x0), (.int x1)] h0 (fun v h L => v = some (.int 1) ∧ Fr h0.size L) := by
  refine Con.of pn0 fun p e s m below meth c s₁ hZ hx hby hml hown hret hlk hnm X0 e0 => ?_
  rw [ef0]
  show Go _ _ _ _ (s₁.setTop (mkF m 0 #[.val (.long x0), .second, .val (.int x1), .unset, .unset, .unset, .unset, .unset, .unset, .unset] []))
  refine Go.step (fun _ k => XS.lloadN X0.here hx rfl (hb hby at_0) rfl k) ?_
  show Go _ _ _ _ (s₁.setTop (mkF m 1 #[.val (.long x0), .second, .val (.int x1), .unset, .unset, .unset, .unset, .unset, .unset, .unset] [(.long x0)]))
  refine Go.step (X0.ldc2Long hx hown (mvT hZ (hw _ (List.mem_of_getElem? (i := 0) rfl))) (g := (mkF m 1 #[.val (.long x0), .second, .val (.int x1), .unset, .unset, .unset, .unset, .unset, .unset, .unset] [(.long x0)])) rfl (hb hby at_1)) ?_
  show Go _ _ _ _ (s₁.setTop (mkF m 4 #[.val (.long x0), .second, .val (.int x1), .unset, .unset, .unset, .unset, .unset, .unset, .unset] [(.long (9223372036854775807 : Int64)), (.long x0)]))
  refine Go.step (fun _ k => XS.land X0.here hx rfl (hb hby at_4) rfl k) ?_
  show Go _ _ _ _ (s₁.setTop (mkF m 5 #[.val (.long x0), .second, .val (.int x1), .unset, .unset, .unset, .unset, .unset, .unset, .unset] [(.long (x0 &&& (9223372036854775807 : Int64)))]))
  refine Go.step (fun _ k => XS.iloadN X0.here hx rfl (hb hby at_5) rfl k) ?_
  show Go _ _ _ _ (s₁.setTop (mkF m 6 #[.val (.long x0), .second, .val (.int x1), .unset, .unset, .unset, .unset, .unset, .unset, .unset] [(.int x1), (.long (x0 &&& (9223372036854775807 : Int64)))]))
  refine Go.step (fun _ k => XS.bipush X0.here hx rfl (hb hby at_6) k) ?_
  show Go _ _ _ _ (s₁.setTop (mkF m 8 #[.val (.long x0), .second, .val (.int x1), .unset, .unset, .unset, .unset, .unset, .unset, .unset] [(.int (63 : Int32)), (.int x1), (.long (x0 &&& (9223372036854775807 : Int64)))]))
  refine Go.step (fun _ k => XS.iand X0.here hx rfl (hb hby at_8) rfl k) ?_
  show Go _ _ _ _ (s₁.setTop (mkF m 9 #[.val (.long x0), .second, .val (.int x1), .unset, .unset, .unset, .unset, .unset, .unset, .unset] [(.int (x1 &&& (63 : Int32))), (.long (x0 &&& (9223372036854775807 : Int64)))]))
  refine Go.step (fun _ k => XS.lushr X0.here hx rfl (hb hby at_9) rfl k) ?_
  show Go _ _ _ _ (s₁.setTop (mkF m 10 #[.val (.long x0), .second, .val (.int x1), .unset, .unset, .unset, .unset, .unset, .unset, .unset] [(.long (((x0 &&& (9223372036854775807 : Int64)).toUInt64 >>> ((x1 &&& (63 : Int32)) &&& 0x3f).toInt64.toUInt64).toInt64))]))
  refine Go.step (fun _ k => XS.lstoreN X0.here hx rfl (hb hby at_10) rfl (l' := #[.val (.long x0), .second, .val (.int x1), .val (.long (((x0 &&& (9223372036854775807 : Int64)).toUInt64 >>> ((x1 &&& (63 : Int32)) &&& 0x3f).toInt64.toUInt64).toInt64)), .second, .unset, .unset, .unset, .unset, .unset]) rfl k) ?_
  show Go _ _ _ _ (s₁.setTop (mkF m 11 #[.val (.long x0), .second, .val (.int x1), .val (.long (((x0 &&& (9223372036854775807 : Int64)).toUInt64 >>> ((x1 &&& (63 : Int32)) &&& 0x3f).toInt64.toUInt64).toInt64)), .second, .unset, .unset, .unset, .unset, .unset] []))
  obtain ⟨v, hv⟩ : ∃ z, z = (((x0 &&& (9223372036854775807 : Int64)).toUInt64 >>> ((x1 &&& (63 : Int32)) &&& 0x3f).toInt64.toUInt64).toInt64) := ⟨_, rfl⟩
  rw [← hv]
  have v0 : 0 ≤ v.toInt := by rw [hv]; exact own_v x0 x1
  show Go _ _ _ _ (s₁.setTop (mkF m 11 #[.val (.long x0), .second, .val (.int x1), .val (.long v), .second, .unset, .unset, .unset, .unset, .unset] []))
  refine Go.step (fun _ k => XS.lloadN X0.here hx rfl (hb hby at_11) rfl k) ?_
  show Go _ _ _ _ (s₁.setTop (mkF m 12 #[.val (.long x0), .second, .val (.int x1), .val (.long v), .second, .unset, .unset, .unset, .unset, .unset] [(.long v)]))
  refine Go.step (fun _ k => XS.lconst X0.here hx rfl (hb hby at_12) k) ?_
  show Go _ _ _ _ (s₁.setTop (mkF m 13 #[.val (.long x0), .second, .val (.int x1), .val (.long v), .second, .unset, .unset, .unset, .unset, .unset] [(.long (0 : Int64)), (.long v)]))
  refine Go.step (fun _ k => XS.lcmp X0.here hx rfl (hb hby at_13) rfl k) ?_
  show Go _ _ _ _ (s₁.setTop (mkF m 14 #[.val (.long x0), .second, .val (.int x1), .val (.long v), .second, .unset, .unset, .unset, .unset, .unset] [(.int (lcmpW v (0 : Int64)))]))
  by_cases hc1 : v = (0 : Int64)
  · refine Go.step (fun _ k => XS.ifNo X0.here hx rfl (hb hby at_14) rfl ((if0 _ _).trans (teq ((lw_eq _ _).mpr hc1)).2) k) ?_
    show Go _ _ _ _ (s₁.setTop (mkF m 17 #[.val (.long x0), .second, .val (.int x1), .val (.long v), .second, .unset, .unset, .unset, .unset, .unset] []))
    refine Go.step (fun _ k => XS.iconst X0.here hx rfl (hb hby at_17) k) ?_
    show Go _ _ _ _ (s₁.setTop (mkF m 18 #[.val (.long x0), .second, .val (.int x1), .val (.long v), .second, .unset, .unset, .unset, .unset, .unset] [(.int (1 : Int32))]))
    exact leafN X0 hx (t := .boolean) hret (by simp) hlk (w := (1 : Int32)) rfl (hb hby at_18) ⟨rfl, Fr.nil _⟩ (by decide) (by decide)
  · refine Go.step (fun _ k => XS.ifYes X0.here hx rfl (pc0 := 14) (pc' := 19) rfl (hb hby at_14) rfl ((if0 _ _).trans (feq (fun q => hc1 ((lw_eq _ _).mp q))).2) (by decide) (by decide) k) ?_
    show Go _ _ _ _ (s₁.setTop (mkF m 19 #[.val (.long x0), .second, .val (.int x1), .val (.long v), .second, .unset, .unset, .unset, .unset, .unset] []))
    refine Go.step (fun _ k => XS.lloadN X0.here hx rfl (hb hby at_19) rfl k) ?_
    show Go _ _ _ _ (s₁.setTop (mkF m 20 #[.val (.long x0), .second, .val (.int x1), .val (.long v), .second, .unset, .unset, .unset, .unset, .unset] [(.long v)]))
    have P0 : 0 < v.toInt := by
      have : v.toInt ≠ 0 := fun z => hc1 (Int64.toInt_inj.mp z)
      omega
    refine goS X0 hx hZ hown (hw _ (List.mem_of_getElem? (i := 1) rfl)) (hw _ (List.mem_of_getElem? (i := 2) rfl)) (hw _ (List.mem_of_getElem? (i := 3) rfl)) (hw _ (List.mem_of_getElem? (i := 4) rfl)) (by decide) (rm1 l Z a0 hw [] v h0 P0 h0.size (Nat.le_refl _)) e0 (by rw [hml]; rfl) [.long v] [] rfl pd1 rfl rfl 0 rfl (hb hby at_20) (by decide) (by decide) (by decide) (by decide) fun TC LC vC qC XC => ?_
    obtain ⟨b, mm, q, rfl, NC, EC, FmC, FeC, hM⟩ := qC
    obtain ⟨SS, s1, s2, s3, s4⟩ := id hM
    have s5 := own_neg q SS s1 s2
    show Go _ _ _ _ (TC.setTop (mkF m 23 #[.val (.long x0), .second, .val (.int x1), .val (.long v), .second, .unset, .unset, .unset, .unset, .unset] [(.ref b)]))
    refine Go.step (fun _ k => XS.astore XC.here hx rfl (hb hby at_23) rfl rfl (l' := #[.val (.long x0), .second, .val (.int x1), .val (.long v), .second, .val (.ref b), .unset, .unset, .unset, .unset]) rfl k) ?_
    show Go _ _ _ _ (TC.setTop (mkF m 25 #[.val (.long x0), .second, .val (.int x1), .val (.long v), .second, .val (.ref b), .unset, .unset, .unset, .unset] []))
    refine Go.step (fun _ k => XS.aload XC.here hx rfl (hb hby at_25) rfl rfl k) ?_
    show Go _ _ _ _ (TC.setTop (mkF m 27 #[.val (.long x0), .second, .val (.int x1), .val (.long v), .second, .val (.ref b), .unset, .unset, .unset, .unset] [(.ref b)]))
    refine goV XC hx hZ hown (hw _ (List.mem_of_getElem? (i := 26) rfl)) (hw _ (List.mem_of_getElem? (i := 27) rfl)) (notFace_of_selects (args := #[]) (mvT hZ (hw _ (List.mem_of_getElem? (i := 29) rfl)))) (hw _ (List.mem_of_getElem? (i := 29) rfl)) (hw _ (List.mem_of_getElem? (i := 28) rfl)) (hw _ (List.mem_of_getElem? (i := 3) rfl)) (hw _ (List.mem_of_getElem? (i := 30) rfl)) (by decide) (rm6 l Z a0 hw [] b TC.heap mm FmC) rfl EC (by rw [hml]; rfl) [] [] rfl pd6 rfl rfl 0 rfl (hb hby at_27) (by decide) (by decide) (by decide) (by decide) fun T2 L2 v2 q2 X2 => ?_
    obtain ⟨rfl, e2, rfl⟩ := q2
    rw [List.append_nil] at X2
    show Go _ _ _ _ (T2.setTop (mkF m 30 #[.val (.long x0), .second, .val (.int x1), .val (.long v), .second, .val (.ref b), .unset, .unset, .unset, .unset] [(.long mm)]))
    refine Go.step (fun _ k => XS.lstore X2.here hx rfl (hb hby at_30) rfl (l' := #[.val (.long x0), .second, .val (.int x1), .val (.long v), .second, .val (.ref b), .val (.long mm), .second, .unset, .unset]) rfl k) ?_
    show Go _ _ _ _ (T2.setTop (mkF m 32 #[.val (.long x0), .second, .val (.int x1), .val (.long v), .second, .val (.ref b), .val (.long mm), .second, .unset, .unset] []))
    refine Go.step (fun _ k => XS.aload X2.here hx rfl (hb hby at_32) rfl rfl k) ?_
    show Go _ _ _ _ (T2.setTop (mkF m 34 #[.val (.long x0), .second, .val (.int x1), .val (.long v), .second, .val (.ref b), .val (.long mm), .second, .unset, .unset] [(.ref b)]))
    refine goV X2 hx hZ hown (hw _ (List.mem_of_getElem? (i := 31) rfl)) (hw _ (List.mem_of_getElem? (i := 32) rfl)) (notFace_of_selects (args := #[]) (mvT hZ (hw _ (List.mem_of_getElem? (i := 34) rfl)))) (hw _ (List.mem_of_getElem? (i := 34) rfl)) (hw _ (List.mem_of_getElem? (i := 33) rfl)) (hw _ (List.mem_of_getElem? (i := 3) rfl)) (hw _ (List.mem_of_getElem? (i := 35) rfl)) (by decide) (rm7 l Z a0 hw [] b TC.heap (-q) FeC) e2 EC (by rw [hml]; rfl) [] [] rfl pd7 rfl rfl 0 rfl (hb hby at_34) (by decide) (by decide) (by decide) (by decide) fun T3 L3 v3 q3 X3 => ?_
    obtain ⟨rfl, e3, rfl⟩ := q3
    rw [List.append_nil] at X3
    show Go _ _ _ _ (T3.setTop (mkF m 37 #[.val (.long x0), .second, .val (.int x1), .val (.long v), .second, .val (.ref b), .val (.long mm), .second, .unset, .unset] [(.int (-q))]))
    refine Go.step (fun _ k => XS.istore X3.here hx rfl (hb hby at_37) rfl (l' := #[.val (.long x0), .second, .val (.int x1), .val (.long v), .second, .val (.ref b), .val (.long mm), .second, .val (.int (-q)), .unset]) rfl k) ?_
    show Go _ _ _ _ (T3.setTop (mkF m 39 #[.val (.long x0), .second, .val (.int x1), .val (.long v), .second, .val (.ref b), .val (.long mm), .second, .val (.int (-q)), .unset] []))
    refine Go.step (fun _ k => XS.lload X3.here hx rfl (hb hby at_39) rfl k) ?_
    show Go _ _ _ _ (T3.setTop (mkF m 41 #[.val (.long x0), .second, .val (.int x1), .val (.long v), .second, .val (.ref b), .val (.long mm), .second, .val (.int (-q)), .unset] [(.long mm)]))
    refine Go.step (X3.ldc2Long hx hown (mvT hZ (hw _ (List.mem_of_getElem? (i := 36) rfl))) (g := (mkF m 41 #[.val (.long x0), .second, .val (.int x1), .val (.long v), .second, .val (.ref b), .val (.long mm), .second, .val (.int (-q)), .unset] [(.long mm)])) rfl (hb hby at_41)) ?_
    show Go _ _ _ _ (T3.setTop (mkF m 44 #[.val (.long x0), .second, .val (.int x1), .val (.long v), .second, .val (.ref b), .val (.long mm), .second, .val (.int (-q)), .unset] [(.long (4611686018427387904 : Int64)), (.long mm)]))
    refine Go.step (fun _ k => XS.lcmp X3.here hx rfl (hb hby at_44) rfl k) ?_
    show Go _ _ _ _ (T3.setTop (mkF m 45 #[.val (.long x0), .second, .val (.int x1), .val (.long v), .second, .val (.ref b), .val (.long mm), .second, .val (.int (-q)), .unset] [(.int (lcmpW mm (4611686018427387904 : Int64)))]))
    refine Go.step (fun _ k => XS.ifYes X3.here hx rfl (pc0 := 45) (pc' := 50) rfl (hb hby at_45) rfl ((if0 _ _).trans (flt (fun q => (show ¬ (mm < (4611686018427387904 : Int64)) from (by rw [Int64.lt_iff_toInt_lt, show (4611686018427387904 : Int64).toInt = 4611686018427387904 from rfl]; omega)) ((lw_lt _ _).mp q))).2.1) (by decide) (by decide) k) ?_
    show Go _ _ _ _ (T3.setTop (mkF m 50 #[.val (.long x0), .second, .val (.int x1), .val (.long v), .second, .val (.ref b), .val (.long mm), .second, .val (.int (-q)), .unset] []))
    refine Go.step (fun _ k => XS.iload X3.here hx rfl (hb hby at_50) rfl k) ?_
    show Go _ _ _ _ (T3.setTop (mkF m 52 #[.val (.long x0), .second, .val (.int x1), .val (.long v), .second, .val (.ref b), .val (.long mm), .second, .val (.int (-q)), .unset] [(.int (-q))]))
    refine Go.step (fun _ k => XS.ifNo X3.here hx rfl (hb hby at_52) rfl ((if0 _ _).trans (flt (show ¬ ((0 : Int32) < (-q)) from (by rw [own_lt, own_z]; omega))).2.2.1) k) ?_
    show Go _ _ _ _ (T3.setTop (mkF m 55 #[.val (.long x0), .second, .val (.int x1), .val (.long v), .second, .val (.ref b), .val (.long mm), .second, .val (.int (-q)), .unset] []))
    refine Go.step (fun _ k => XS.iload X3.here hx rfl (hb hby at_55) rfl k) ?_
    show Go _ _ _ _ (T3.setTop (mkF m 57 #[.val (.long x0), .second, .val (.int x1), .val (.long v), .second, .val (.ref b), .val (.long mm), .second, .val (.int (-q)), .unset] [(.int (-q))]))
    refine Go.step (fun _ k => XS.bipush X3.here hx rfl (hb hby at_57) k) ?_
    show Go _ _ _ _ (T3.setTop (mkF m 59 #[.val (.long x0), .second, .val (.int x1), .val (.long v), .second, .val (.ref b), .val (.long mm), .second, .val (.int (-q)), .unset] [(.int (-62 : Int32)), (.int (-q))]))
    refine Go.step (fun _ k => XS.icmpYes X3.here hx rfl (pc0 := 59) (pc' := 64) rfl (hb hby at_59) rfl (flt (show ¬ ((-q) < (-62 : Int32)) from (by rw [own_lt, show (-62 : Int32).toInt = -62 from rfl]; omega))).2.1 (by decide) (by decide) k) ?_
    show Go _ _ _ _ (T3.setTop (mkF m 64 #[.val (.long x0), .second, .val (.int x1), .val (.long v), .second, .val (.ref b), .val (.long mm), .second, .val (.int (-q)), .unset] []))
    refine Go.step (fun _ k => XS.iload X3.here hx rfl (hb hby at_64) rfl k) ?_
    show Go _ _ _ _ (T3.setTop (mkF m 66 #[.val (.long x0), .second, .val (.int x1), .val (.long v), .second, .val (.ref b), .val (.long mm), .second, .val (.int (-q)), .unset] [(.int (-q))]))
    refine Go.step (fun _ k => XS.ineg X3.here hx rfl (hb hby at_66) rfl k) ?_
    show Go _ _ _ _ (T3.setTop (mkF m 67 #[.val (.long x0), .second, .val (.int x1), .val (.long v), .second, .val (.ref b), .val (.long mm), .second, .val (.int (-q)), .unset] [(.int ((-(-q))))]))
    refine Go.step (fun _ k => XS.istore X3.here hx rfl (hb hby at_67) rfl (l' := #[.val (.long x0), .second, .val (.int x1), .val (.long v), .second, .val (.ref b), .val (.long mm), .second, .val (.int (-q)), .val (.int ((-(-q))))]) rfl k) ?_
    show Go _ _ _ _ (T3.setTop (mkF m 69 #[.val (.long x0), .second, .val (.int x1), .val (.long v), .second, .val (.ref b), .val (.long mm), .second, .val (.int (-q)), .val (.int ((-(-q))))] []))
    rw [Int32.neg_neg]
    show Go _ _ _ _ (T3.setTop (mkF m 69 #[.val (.long x0), .second, .val (.int x1), .val (.long v), .second, .val (.ref b), .val (.long mm), .second, .val (.int (-q)), .val (.int q)] []))
    refine Go.step (fun _ k => XS.lload X3.here hx rfl (hb hby at_69) rfl k) ?_
    show Go _ _ _ _ (T3.setTop (mkF m 71 #[.val (.long x0), .second, .val (.int x1), .val (.long v), .second, .val (.ref b), .val (.long mm), .second, .val (.int (-q)), .val (.int q)] [(.long mm)]))
    refine Go.step (fun _ k => XS.iload X3.here hx rfl (hb hby at_71) rfl k) ?_
    show Go _ _ _ _ (T3.setTop (mkF m 73 #[.val (.long x0), .second, .val (.int x1), .val (.long v), .second, .val (.ref b), .val (.long mm), .second, .val (.int (-q)), .val (.int q)] [(.int q), (.long mm)]))
    refine Go.step (fun _ k => XS.lushr X3.here hx rfl (hb hby at_73) rfl k) ?_
    show Go _ _ _ _ (T3.setTop (mkF m 74 #[.val (.long x0), .second, .val (.int x1), .val (.long v), .second, .val (.ref b), .val (.long mm), .second, .val (.int (-q)), .val (.int q)] [(.long ((mm.toUInt64 >>> (q &&& 0x3f).toInt64.toUInt64).toInt64))]))
    refine Go.step (fun _ k => XS.lloadN X3.here hx rfl (hb hby at_74) rfl k) ?_
    show Go _ _ _ _ (T3.setTop (mkF m 75 #[.val (.long x0), .second, .val (.int x1), .val (.long v), .second, .val (.ref b), .val (.long mm), .second, .val (.int (-q)), .val (.int q)] [(.long v), (.long ((mm.toUInt64 >>> (q &&& 0x3f).toInt64.toUInt64).toInt64))]))
    refine Go.step (fun _ k => XS.lcmp X3.here hx rfl (hb hby at_75) rfl k) ?_
    show Go _ _ _ _ (T3.setTop (mkF m 76 #[.val (.long x0), .second, .val (.int x1), .val (.long v), .second, .val (.ref b), .val (.long mm), .second, .val (.int (-q)), .val (.int q)] [(.int (lcmpW ((mm.toUInt64 >>> (q &&& 0x3f).toInt64.toUInt64).toInt64) v))]))
    refine Go.step (fun _ k => XS.ifNo X3.here hx rfl (hb hby at_76) rfl ((if0 _ _).trans (teq ((lw_eq _ _).mpr (own_back v mm q P0 hM))).2) k) ?_
    show Go _ _ _ _ (T3.setTop (mkF m 79 #[.val (.long x0), .second, .val (.int x1), .val (.long v), .second, .val (.ref b), .val (.long mm), .second, .val (.int (-q)), .val (.int q)] []))
    refine Go.step (fun _ k => XS.lloadN X3.here hx rfl (hb hby at_79) rfl k) ?_
    show Go _ _ _ _ (T3.setTop (mkF m 80 #[.val (.long x0), .second, .val (.int x1), .val (.long v), .second, .val (.ref b), .val (.long mm), .second, .val (.int (-q)), .val (.int q)] [(.long v)]))
    refine Go.step (fun _ k => XS.iload X3.here hx rfl (hb hby at_80) rfl k) ?_
    show Go _ _ _ _ (T3.setTop (mkF m 82 #[.val (.long x0), .second, .val (.int x1), .val (.long v), .second, .val (.ref b), .val (.long mm), .second, .val (.int (-q)), .val (.int q)] [(.int q), (.long v)]))
    refine Go.step (fun _ k => XS.lshl X3.here hx rfl (hb hby at_82) rfl k) ?_
    show Go _ _ _ _ (T3.setTop (mkF m 83 #[.val (.long x0), .second, .val (.int x1), .val (.long v), .second, .val (.ref b), .val (.long mm), .second, .val (.int (-q)), .val (.int q)] [(.long (v <<< (q &&& 0x3f).toInt64))]))
    refine Go.step (fun _ k => XS.lload X3.here hx rfl (hb hby at_83) rfl k) ?_
    show Go _ _ _ _ (T3.setTop (mkF m 85 #[.val (.long x0), .second, .val (.int x1), .val (.long v), .second, .val (.ref b), .val (.long mm), .second, .val (.int (-q)), .val (.int q)] [(.long mm), (.long (v <<< (q &&& 0x3f).toInt64))]))
    refine Go.step (fun _ k => XS.lcmp X3.here hx rfl (hb hby at_85) rfl k) ?_
    show Go _ _ _ _ (T3.setTop (mkF m 86 #[.val (.long x0), .second, .val (.int x1), .val (.long v), .second, .val (.ref b), .val (.long mm), .second, .val (.int (-q)), .val (.int q)] [(.int (lcmpW (v <<< (q &&& 0x3f).toInt64) mm))]))
    refine Go.step (fun _ k => XS.ifNo X3.here hx rfl (hb hby at_86) rfl ((if0 _ _).trans (teq ((lw_eq _ _).mpr (own_again v mm q hM))).2) k) ?_
    show Go _ _ _ _ (T3.setTop (mkF m 89 #[.val (.long x0), .second, .val (.int x1), .val (.long v), .second, .val (.ref b), .val (.long mm), .second, .val (.int (-q)), .val (.int q)] []))
    refine Go.step (fun _ k => XS.iconst X3.here hx rfl (hb hby at_89) k) ?_
    show Go _ _ _ _ (T3.setTop (mkF m 90 #[.val (.long x0), .second, .val (.int x1), .val (.long v), .second, .val (.ref b), .val (.long mm), .second, .val (.int (-q)), .val (.int q)] [(.int (1 : Int32))]))
    refine Go.step (fun _ k => XS.goto X3.here hx rfl (pc0 := 90) (pc' := 94) rfl (hb hby at_90) (by decide) (by decide) k) ?_
    show Go _ _ _ _ (T3.setTop (mkF m 94 #[.val (.long x0), .second, .val (.int x1), .val (.long v), .second, .val (.ref b), .val (.long mm), .second, .val (.int (-q)), .val (.int q)] [(.int (1 : Int32))]))
    exact leafN X3 hx (t := .boolean) hret (by simp) hlk (w := (1 : Int32)) rfl (hb hby at_94) ⟨rfl, Fr.app (Fr.nil _) NC⟩ (by decide) (by decide)
set_option maxRecDepth 65536 in
set_option maxHeartbeats 40000000 in
theorem comes_1 {Post : Tables → Env → Array Value → State → Outcome → State → Prop} (hpost : ∀ tb e args s v u, (limb_1_1.after args s (.returned v) u = true ∧ limb_1_2.after args s (.returned v) u = true ∧ True) → FrameEnd s (.returned v) u (Jvm.fieldLocs frame_1_writes args s ++ Jvm.arrayLocs frame_1_arrays args s ++ Jvm.staticLocs frame_1_statics s) 16 128 → Post tb e args s (.returned v) u) :
    ArmFor flags0 classFile x code maxLocals ret World_1 tables_1 room_1 Calls_1 rest_1 Pre_1 Post := by
  intro l hfl _ _ p e ha hc hk s m args below hf hA hF happ hP
  obtain ⟨hcalls, hrest, hpre⟩ := hP
  obtain ⟨-, -, -, hnamed, -, -, -, hat⟩ := (Spec.applies_iff hf).mp happ
  obtain ⟨hg, hn⟩ := and_e (Cond.before_iff.mp (show (Jvm.Cond.and given_1 narrow_1).before args s = true from hpre))
  obtain ⟨hcount, hg0⟩ := and_e hg
  obtain ⟨ha0, hg1⟩ := and_e hg0
  have ha1 := hg1
  obtain ⟨w0, w1, rfl⟩ : ∃ w0 w1 : Value, args = #[w0, w1] := by
    have hs : args.size = 2 := by simpa [Cond.value, given_1] using hcount
    obtain ⟨L⟩ := args
    match L, hs with
    | [w0, w1], _ => exact ⟨w0, w1, rfl⟩
  have hw := fun d (hd : d ∈ tables_1) => atoms_spec (ws := Jvm.Cond.code x code maxLocals ret :: tables_1) hat d (List.mem_cons_of_mem _ hd)
  obtain ⟨i0, ei0⟩ := isL_v ha0
  obtain rfl : w0 = (.long i0) := Option.some.inj ei0
  obtain ⟨i1, ei1⟩ := is_v ha1
  obtain rfl : w1 = (.int i1) := Option.some.inj ei1
  obtain ⟨n, o, h1, h2, h3, _, L, rfl, ⟨rfl, N⟩, hq⟩ := rm0 l s _ hw tables_1 i0 i1 s.heap p e ha hc hk s m _ below hf ((Spec.applies_iff_loose hf).mp happ).1 ⟨rfl, State.Warmed39.refl s, rfl⟩ trivial
  refine ⟨n, _, h1, h2, h3, hpost _ _ _ _ _ _ ⟨Cond.after_iff.mpr rfl, Cond.after_iff.mpr (eq_i res_at (Term.int_eval (1)) rfl), trivial⟩ ⟨hq.1, hq.2.1, (hq.2.2.sift fun y hy => Or.inr (N y hy)).mono (by decide) (by decide)⟩⟩
theorem main_1_1 : Claimed_1_1 := comes_1 fun _ _ _ _ _ _ h hF => ⟨h.1, hF⟩
theorem main_1_2 : Claimed_1_2 := comes_1 fun _ _ _ _ _ _ h hF => ⟨h.2.1, hF⟩
end Jvm.Pilot.@@N@@
namespace Jvm.Pilot.@@N@@
open Jvm Jvm.ClassFile Sem Op Lib Jvm.Free Jvm.Stand Jvm.Pilot.@@N@@.Jvm.D
/-! MADE BY PROGRAM (witnessworld.py) out of the Statement's table words and the real class files: 15 classes; the members and pool entries that the words name. The judged class is class 1, her method 1. -/
namespace start1
open Jvm.ClassFile
def u (s : String) : CpInfo := .utf8 (stringToUtf16 s)
/-- a pool by its gaps: so many unusable entries, then the entry; so many at the end -/
def gap : Nat → List CpInfo → List CpInfo
  | 0, r => r
  | n + 1, r => .unusable :: gap n r
def poolList (es : List (Nat × CpInfo)) (last : Nat) : List CpInfo := es.foldr (fun e r => gap e.1 (e.2 :: r)) (gap last [])
def pool (es : List (Nat × CpInfo)) (last : Nat) : Array CpInfo := ⟨poolList es last⟩
def fileOf (pool : Array CpInfo) (this : Nat) (attrs : Array Attribute := #[]) (ms : Array MethodInfo := #[]) (fl : Nat := 33) (sup : Nat := 0) (ifs : Array Nat := #[]) (fds : Array FieldInfo := #[]) : ClassFile where
  minorVersion := 0
  majorVersion := 65
  constantPool := pool
  accessFlags := fl
  thisClass := this
  superClass := sup
  interfaces := ifs
  fields := fds
  methods := ms
  attributes := attrs
def plain (name : String) (sup : Option ClassId) : Class where
  name := name
  kind := .ordinary
  loader := none
  accessFlags := 33
  super := sup
  interfaces := #[]
  cf := none
  fields := #[]
  methods := #[]
  instanceTypes := #[]
  staticTypes := #[]
  resolved := #[]
  callSites := []
  init := .initialized
  statics := none
  mirror := none

def pool0 : Array CpInfo := pool [(5, u "<init>"), (0, u "()V"), (1, .class_ 10), (1, u "java/lang/Object")] 113

def k0c0 : Code := { maxStack := 0, maxLocals := 1, code := object_method_1_code, exceptionTable := #[], attributes := #[] }
def k0m0 : Method := { name := "<init>", desc := "()V", sig := { parameters := [], returnType := none }, accessFlags := 1, code := some k0c0 }
/-- java/lang/Object -/
def k0 : Class := { plain "java/lang/Object" none with
  accessFlags := 33
  interfaces := #[]
  cf := some (fileOf pool0 8 #[] #[{ accessFlags := 1, nameIndex := 5, descriptorIndex := 6, attributes := #[] }] 33 0 #[] #[])
  fields := #[]
  methods := #[k0m0]
  instanceTypes := #[]
  staticTypes := #[]
  resolved := Array.replicate 124 none
  statics := none }

def pool1 : Array CpInfo := pool [(2, .class_ 4), (1, u "java/lang/Object"), (0, u "<init>"), (0, u "()V"), (2, .long 9223372036854775807), (1, .methodref 12 13), (0, .class_ 14), (0, .nameAndType 15 16), (0, u "com/example/hearthline/hearthline/BinaryEstimate"), (0, u "of"), (0, u "(J)Lcom/example/hearthline/hearthline/BinaryEstimate;"), (0, .methodref 12 18), (0, .nameAndType 19 20), (0, u "mantissa"), (0, u "()J"), (0, .methodref 12 22), (0, .nameAndType 23 24), (0, u "exponent"), (0, u "()I"), (0, .long 4611686018427387904), (1, .class_ 28), (0, u "com/example/hearthline/hearthline/BinaryEstimateOfPinLaw"), (2, u "law"), (0, u "(JI)Z")] 3

def k1m0 : Method := { name := "<init>", desc := "()V", sig := { parameters := [], returnType := none }, accessFlags := 1, code := none }
def k1c1 : Code := { maxStack := 4, maxLocals := 10, code := code, exceptionTable := #[], attributes := #[] }
def k1m1 : Method := { name := "law", desc := "(JI)Z", sig := { parameters := [.long, .int], returnType := some .boolean }, accessFlags := 9, code := some k1c1 }
/-- com/example/hearthline/hearthline/BinaryEstimateOfPinLaw -/
def k1 : Class := { plain "com/example/hearthline/hearthline/BinaryEstimateOfPinLaw" (some 0) with
  accessFlags := 49
  interfaces := #[]
  cf := some (fileOf pool1 27 #[] #[{ accessFlags := 1, nameIndex := 5, descriptorIndex := 6, attributes := #[] }, { accessFlags := 9, nameIndex := 31, descriptorIndex := 32, attributes := #[] }] 49 2 #[] #[])
  fields := #[]
  methods := #[k1m0, k1m1]
  instanceTypes := #[]
  staticTypes := #[]
  resolved := Array.replicate 36 none
  statics := none }

def pool2 : Array CpInfo := pool [(1, .methodref 2 3), (0, .class_ 4), (0, .nameAndType 5 6), (0, u "java/lang/Object"), (0, u "<init>"), (0, u "()V"), (0, .fieldref 8 9), (0, .class_ 10), (0, .nameAndType 11 12), (0, u "com/example/hearthline/hearthline/BinaryEstimate"), (0, u "mantissa"), (0, u "J"), (0, .fieldref 8 14), (0, .nameAndType 15 16), (0, u "exponent"), (0, u "I"), (9, .methodref 27 28), (0, .class_ 29), (0, .nameAndType 30 31), (0, u "java/lang/Long"), (0, u "numberOfLeadingZeros"), (0, u "(J)I"), (0, .methodref 8 33), (0, .nameAndType 5 34), (0, u "(JI)V"), (6, u "UNIT_ERROR_BITS"), (4, u "of"), (0, u "(J)Lcom/example/hearthline/hearthline/BinaryEstimate;"), (1, u "()J"), (0, u "()I")] 21

def k2c0 : Code := { maxStack := 3, maxLocals := 4, code := prog_3_method_1_code, exceptionTable := #[], attributes := #[] }
def k2m0 : Method := { name := "<init>", desc := "(JI)V", sig := { parameters := [.long, .int], returnType := none }, accessFlags := 2, code := some k2c0 }
def k2c1 : Code := { maxStack := 5, maxLocals := 3, code := prog_3_method_2_code, exceptionTable := #[], attributes := #[] }
def k2m1 : Method := { name := "of", desc := "(J)Lcom/example/hearthline/hearthline/BinaryEstimate;", sig := { parameters := [.long], returnType := some (.object "com/example/hearthline/hearthline/BinaryEstimate") }, accessFlags := 8, code := some k2c1 }
def k2c2 : Code := { maxStack := 2, maxLocals := 1, code := prog_3_method_3_code, exceptionTable := #[], attributes := #[] }
def k2m2 : Method := { name := "mantissa", desc := "()J", sig := { parameters := [], returnType := some .long }, accessFlags := 0, code := some k2c2 }
def k2c3 : Code := { maxStack := 1, maxLocals := 1, code := prog_3_method_4_code, exceptionTable := #[], attributes := #[] }
def k2m3 : Method := { name := "exponent", desc := "()I", sig := { parameters := [], returnType := some .int }, accessFlags := 0, code := some k2c3 }
/-- com/example/hearthline/hearthline/BinaryEstimate -/
def k2 : Class := { plain "com/example/hearthline/hearthline/BinaryEstimate" (some 0) with
  accessFlags := 48
  interfaces := #[]
  cf := some (fileOf pool2 8 #[] #[{ accessFlags := 2, nameIndex := 5, descriptorIndex := 34, attributes := #[] }, { accessFlags := 8, nameIndex := 46, descriptorIndex := 47, attributes := #[] }, { accessFlags := 0, nameIndex := 11, descriptorIndex := 49, attributes := #[] }, { accessFlags := 0, nameIndex := 15, descriptorIndex := 50, attributes := #[] }] 48 2 #[] #[{ accessFlags := 24, nameIndex := 41, descriptorIndex := 16, attributes := #[] }, { accessFlags := 18, nameIndex := 11, descriptorIndex := 12, attributes := #[] }, { accessFlags := 18, nameIndex := 15, descriptorIndex := 16, attributes := #[] }])
  fields := #[{ name := "UNIT_ERROR_BITS", type := .int, accessFlags := 24, slot := 0, constantValue := 0 }, { name := "mantissa", type := .long, accessFlags := 18, slot := 0, constantValue := 0 }, { name := "exponent", type := .int, accessFlags := 18, slot := 1, constantValue := 0 }]
  methods := #[k2m0, k2m1, k2m2, k2m3]
  instanceTypes := #[.long, .int]
  staticTypes := #[.int]
  resolved := Array.replicate 72 none
  statics := none }

def pool3 : Array CpInfo := pool [(1, .class_ 2), (0, u "java/io/Serializable"), (0, .class_ 4), (0, u "java/lang/Object")] 2

/-- java/io/Serializable -/
def k3 : Class := { plain "java/io/Serializable" (some 0) with
  accessFlags := 1537
  interfaces := #[]
  cf := some (fileOf pool3 1 #[] #[] 1537 3 #[] #[])
  fields := #[]
  methods := #[]
  instanceTypes := #[]
  staticTypes := #[]
  resolved := Array.replicate 7 none
  statics := none }

def pool4 : Array CpInfo := pool [(2, .class_ 4), (1, u "java/lang/Object"), (0, u "<init>"), (0, u "()V"), (1, .class_ 10), (1, u "java/lang/Number"), (2, .class_ 14), (0, u "java/io/Serializable"), (0, u "serialVersionUID"), (0, u "J")] 20

def k4m0 : Method := { name := "<init>", desc := "()V", sig := { parameters := [], returnType := none }, accessFlags := 1, code := none }
/-- java/lang/Number -/
def k4 : Class := { plain "java/lang/Number" (some 0) with
  accessFlags := 1057
  interfaces := #[3]
  cf := some (fileOf pool4 8 #[] #[{ accessFlags := 1, nameIndex := 5, descriptorIndex := 6, attributes := #[] }] 1057 2 #[13] #[{ accessFlags := 26, nameIndex := 15, descriptorIndex := 16, attributes := #[] }])
  fields := #[{ name := "serialVersionUID", type := .long, accessFlags := 26, slot := 0, constantValue := 0 }]
  methods := #[k4m0]
  instanceTypes := #[]
  staticTypes := #[.long]
  resolved := Array.replicate 37 none
  statics := none }

def pool5 : Array CpInfo := pool [(1, .class_ 2), (0, u "java/lang/Comparable"), (0, .class_ 4), (0, u "java/lang/Object")] 7

/-- java/lang/Comparable -/
def k5 : Class := { plain "java/lang/Comparable" (some 0) with
  accessFlags := 1537
  interfaces := #[]
  cf := some (fileOf pool5 1 #[] #[] 1537 3 #[] #[])
  fields := #[]
  methods := #[]
  instanceTypes := #[]
  staticTypes := #[]
  resolved := Array.replicate 12 none
  statics := none }

def pool6 : Array CpInfo := pool [(1, .class_ 2), (0, u "java/lang/constant/Constable"), (0, .class_ 4), (0, u "java/lang/Object")] 6

/-- java/lang/constant/Constable -/
def k6 : Class := { plain "java/lang/constant/Constable" (some 0) with
  accessFlags := 1537
  interfaces := #[]
  cf := some (fileOf pool6 1 #[] #[] 1537 3 #[] #[])
  fields := #[]
  methods := #[]
  instanceTypes := #[]
  staticTypes := #[]
  resolved := Array.replicate 11 none
  statics := none }

def pool7 : Array CpInfo := pool [(1, .class_ 2), (0, u "java/lang/constant/ConstantDesc"), (0, .class_ 4), (0, u "java/lang/Object")] 32

/-- java/lang/constant/ConstantDesc -/
def k7 : Class := { plain "java/lang/constant/ConstantDesc" (some 0) with
  accessFlags := 1537
  interfaces := #[]
  cf := some (fileOf pool7 1 #[] #[] 1537 3 #[] #[])
  fields := #[]
  methods := #[]
  instanceTypes := #[]
  staticTypes := #[]
  resolved := Array.replicate 37 none
  statics := none }

def pool8 : Array CpInfo := pool [(1, .class_ 2), (0, u "java/lang/Long"), (15, .class_ 20), (1, u "java/lang/Integer"), (79, u "numberOfLeadingZeros"), (0, u "(J)I"), (133, .class_ 237), (1, u "java/lang/Long$LongCache"), (33, .class_ 272), (0, u "java/lang/Number"), (2, u "value"), (0, u "J"), (31, .methodref 18 309), (0, .nameAndType 100 310), (0, u "(I)I"), (50, u "TYPE"), (0, u "Ljava/lang/Class;"), (0, .class_ 364), (0, u "java/lang/Comparable"), (0, .class_ 366), (0, u "java/lang/constant/Constable"), (0, .class_ 368), (0, u "java/lang/constant/ConstantDesc"), (0, u "MIN_VALUE"), (1, u "MAX_VALUE"), (4, u "SIZE"), (0, u "I"), (1, u "BYTES"), (1, u "serialVersionUID")] 142

def k8c0 : Code := { maxStack := 3, maxLocals := 3, code := jdk_35_method_48_code, exceptionTable := #[], attributes := #[] }
def k8m0 : Method := { name := "numberOfLeadingZeros", desc := "(J)I", sig := { parameters := [.long], returnType := some .int }, accessFlags := 9, code := some k8c0 }
/-- java/lang/Long -/
def k8 : Class := { plain "java/lang/Long" (some 4) with
  accessFlags := 49
  interfaces := #[5, 6, 7]
  cf := some (fileOf pool8 1 #[.nestMembers #[235]] #[{ accessFlags := 9, nameIndex := 100, descriptorIndex := 101, attributes := #[] }] 49 271 #[363, 365, 367] #[{ accessFlags := 25, nameIndex := 369, descriptorIndex := 276, attributes := #[] }, { accessFlags := 25, nameIndex := 371, descriptorIndex := 276, attributes := #[] }, { accessFlags := 25, nameIndex := 361, descriptorIndex := 362, attributes := #[] }, { accessFlags := 18, nameIndex := 275, descriptorIndex := 276, attributes := #[] }, { accessFlags := 25, nameIndex := 376, descriptorIndex := 377, attributes := #[] }, { accessFlags := 25, nameIndex := 379, descriptorIndex := 377, attributes := #[] }, { accessFlags := 26, nameIndex := 381, descriptorIndex := 276, attributes := #[] }])
  fields := #[{ name := "MIN_VALUE", type := .long, accessFlags := 25, slot := 0, constantValue := 0 }, { name := "MAX_VALUE", type := .long, accessFlags := 25, slot := 1, constantValue := 0 }, { name := "TYPE", type := (.object "java/lang/Class"), accessFlags := 25, slot := 2, constantValue := 0 }, { name := "value", type := .long, accessFlags := 18, slot := 0, constantValue := 0 }, { name := "SIZE", type := .int, accessFlags := 25, slot := 3, constantValue := 0 }, { name := "BYTES", type := .int, accessFlags := 25, slot := 4, constantValue := 0 }, { name := "serialVersionUID", type := .long, accessFlags := 26, slot := 5, constantValue := 0 }]
  methods := #[k8m0]
  instanceTypes := #[.long]
  staticTypes := #[.long, .long, (.object "java/lang/Class"), .int, .int, .long]
  resolved := Array.replicate 524 none
  statics := none }

def pool9 : Array CpInfo := pool [(1, .class_ 2), (0, u "java/lang/Integer"), (16, u "digits"), (0, u "[C"), (32, u "numberOfLeadingZeros"), (0, u "(I)I"), (30, u "DigitOnes"), (0, u "[B"), (2, u "DigitTens"), (99, .class_ 190), (0, u "java/lang/Integer$IntegerCache"), (3, u "I"), (8, .class_ 204), (0, u "java/lang/Number"), (2, u "value"), (56, .integer 65536), (37, u "TYPE"), (0, u "Ljava/lang/Class;"), (0, .class_ 305), (0, u "java/lang/Comparable"), (0, .class_ 307), (0, u "java/lang/constant/Constable"), (0, .class_ 309), (0, u "java/lang/constant/ConstantDesc"), (0, u "MIN_VALUE"), (1, u "MAX_VALUE"), (3, u "SIZE"), (1, u "BYTES"), (1, u "serialVersionUID"), (0, u "J")] 131

def k9c0 : Code := { maxStack := 3, maxLocals := 2, code := jdk_33_method_47_code, exceptionTable := #[], attributes := #[] }
def k9m0 : Method := { name := "numberOfLeadingZeros", desc := "(I)I", sig := { parameters := [.int], returnType := some .int }, accessFlags := 9, code := some k9c0 }
/-- java/lang/Integer -/
def k9 : Class := { plain "java/lang/Integer" (some 4) with
  accessFlags := 49
  interfaces := #[5, 6, 7]
  cf := some (fileOf pool9 1 #[.nestMembers #[189]] #[{ accessFlags := 9, nameIndex := 53, descriptorIndex := 54, attributes := #[] }] 49 203 #[304, 306, 308] #[{ accessFlags := 25, nameIndex := 310, descriptorIndex := 194, attributes := #[] }, { accessFlags := 25, nameIndex := 312, descriptorIndex := 194, attributes := #[] }, { accessFlags := 25, nameIndex := 302, descriptorIndex := 303, attributes := #[] }, { accessFlags := 24, nameIndex := 19, descriptorIndex := 20, attributes := #[] }, { accessFlags := 24, nameIndex := 89, descriptorIndex := 86, attributes := #[] }, { accessFlags := 24, nameIndex := 85, descriptorIndex := 86, attributes := #[] }, { accessFlags := 18, nameIndex := 207, descriptorIndex := 194, attributes := #[] }, { accessFlags := 25, nameIndex := 316, descriptorIndex := 194, attributes := #[] }, { accessFlags := 25, nameIndex := 318, descriptorIndex := 194, attributes := #[] }, { accessFlags := 26, nameIndex := 320, descriptorIndex := 321, attributes := #[] }])
  fields := #[{ name := "MIN_VALUE", type := .int, accessFlags := 25, slot := 0, constantValue := 0 }, { name := "MAX_VALUE", type := .int, accessFlags := 25, slot := 1, constantValue := 0 }, { name := "TYPE", type := (.object "java/lang/Class"), accessFlags := 25, slot := 2, constantValue := 0 }, { name := "digits", type := (.array .char), accessFlags := 24, slot := 3, constantValue := 0 }, { name := "DigitTens", type := (.array .byte), accessFlags := 24, slot := 4, constantValue := 0 }, { name := "DigitOnes", type := (.array .byte), accessFlags := 24, slot := 5, constantValue := 0 }, { name := "value", type := .int, accessFlags := 18, slot := 0, constantValue := 0 }, { name := "SIZE", type := .int, accessFlags := 25, slot := 6, constantValue := 0 }, { name := "BYTES", type := .int, accessFlags := 25, slot := 7, constantValue := 0 }, { name := "serialVersionUID", type := .long, accessFlags := 26, slot := 8, constantValue := 0 }]
  methods := #[k9m0]
  instanceTypes := #[.int]
  staticTypes := #[.int, .int, (.object "java/lang/Class"), (.array .char), (.array .byte), (.array .byte), .int, .int, .long]
  resolved := Array.replicate 453 none
  statics := none }

def pool10 : Array CpInfo := pool [(1, u "java/lang/Cloneable"), (0, .class_ 1), (0, u "java/lang/Object"), (0, .class_ 3)] 3

/-- java/lang/Cloneable -/
def k10 : Class := { plain "java/lang/Cloneable" (some 0) with
  accessFlags := 1537
  interfaces := #[]
  cf := some (fileOf pool10 2 #[] #[] 1537 4 #[] #[])
  fields := #[]
  methods := #[]
  instanceTypes := #[]
  staticTypes := #[]
  resolved := Array.replicate 8 none
  statics := none }

/-- the primitive byte -/
def k11 : Class := { plain "byte" none with kind := .primitive 'B', accessFlags := 0x411 }
/-- [B -/
def k12 : Class := { plain "[B" (some 0) with kind := .array 11 .byte, interfaces := #[10, 3], accessFlags := 1041 }

/-- the primitive int -/
def k13 : Class := { plain "int" none with kind := .primitive 'I', accessFlags := 0x411 }
/-- [I -/
def k14 : Class := { plain "[I" (some 0) with kind := .array 13 .int, interfaces := #[10, 3], accessFlags := 1041 }

def heap : Heap := #[]
def classes : Array Class := #[k0, k1, k2, k3, k4, k5, k6, k7, k8, k9, k10, k11, k12, k13, k14]
def interned : List (Array UInt16 × Addr) := []
def slotsUsed : Nat := 0
def theMethod : MethodId := ⟨1, 1⟩
def args0 : Array Value := #[.long 5, .int 6]
def aboutOver (below : List Frame) : State where
  vm := { classes := classes, interned := interned.toArray }
  heap := heap
  slotsUsed := slotsUsed
  threads := #[{ frames := .invoking theMethod args0 :: below }]
def below0 : List Frame := [.native { method := ⟨0, 0⟩, args := #[] }]
def about1 : State := aboutOver below0
def p0 : Program := .bare "" "" ""
def e0 : Env := launch0.env 0 0 0
theorem w_frames : about1.frames = Frame.invoking theMethod args0 :: below0 := rfl
set_option maxRecDepth 65536 in
theorem w_args : argsFit about1.vm theMethod args0 = true := by decide +kernel
set_option maxRecDepth 65536 in
theorem w_heap : heapFits about1 = true := by decide +kernel
set_option maxRecDepth 65536 in
theorem w_runnable : about1.curStatus? = some .runnable := by decide +kernel
set_option maxRecDepth 65536 in
theorem w_alone : about1.alone = true := by decide +kernel
set_option maxRecDepth 65536 in
theorem w_named : about1.methodNamed? x = some theMethod := by decide +kernel
set_option maxRecDepth 65536 in
theorem w_hears : about1.hears theMethod below0 = true := by decide +kernel
set_option maxRecDepth 65536 in
theorem w_ripe : about1.ripe theMethod args0 below0 = true := by decide +kernel
theorem w_running : about1.status = .running := rfl
set_option maxRecDepth 65536 in
theorem w_room : about1.hasRoom e0.platform room_1 = true :=
  launch0.hasRoom_least _ room_1 (by decide +kernel) (by decide +kernel) (by decide +kernel) (by decide +kernel) (by decide +kernel) (by decide +kernel)
theorem allAtoms_all (ts : List Jvm.Cond) (a : Array Jvm.Value) (st : Jvm.State) : (allAtoms ts).before a st = ts.all (fun c => c.before a st) := by
  induction ts with
  | nil => rfl
  | cons c t ih =>
    show (Jvm.Cond.and c (allAtoms t)).before a st = _
    rw [Jvm.Cond.before_and, ih, List.all_cons]
def words1 : List Jvm.Cond := Jvm.Cond.code x code maxLocals ret :: tables_1
/-- a 'code' word, met by the world's own term for the bytes: nothing is compared byte by byte -/
theorem code_word {y : MethodName} {bytes : ByteArray} {mx : Nat} {rt : Option FieldType} {a : Array Value} {s : State} {m : MethodId} {meth : Method} {c : Code} (h1 : s.methodNamed? y = some m) (h2 : s.vm.method? m = some meth) (h3 : meth.code = some c) (h4 : c.code = bytes)
    (h5 : (c.maxLocals == mx && c.exceptionTable.isEmpty && decide (c.maxStack ≤ mostOperands) && decide (meth.sig.returnType = rt) && !meth.locks && decide (parseMethodDescriptor y.desc = some meth.sig)) = true) : (Jvm.Cond.code y bytes mx rt).before a s = true := by
  simp only [Bool.and_eq_true, beq_iff_eq, Bool.not_eq_true', decide_eq_true_eq] at h5
  obtain ⟨⟨⟨⟨⟨g1, g2⟩, g3⟩, g4⟩, g5⟩, g6⟩ := h5
  simp [Cond.before, Cond.holds, Cond.value, h1, h2, h3, h4, g1, g2, g3, g4, g5, g6]
def isCode : Jvm.Cond → Bool
  | .code _ _ _ _ => true
  | _ => false
theorem all_split {L : List Jvm.Cond} {P : Jvm.Cond → Bool} (h1 : L.all (fun c => isCode c || P c) = true) (h2 : ∀ c ∈ L.filter isCode, P c = true) : L.all P = true := by
  refine List.all_eq_true.mpr fun c hc => ?_
  have h := List.all_eq_true.mp h1 c hc
  rcases Bool.eq_false_or_eq_true (isCode c) with hi | hi
  · exact h2 c (List.mem_filter.mpr ⟨hc, hi⟩)
  · simpa [hi] using h
set_option maxRecDepth 65536 in
theorem w_c0 : (Jvm.Cond.code x code maxLocals ret).before args0 about1 = true := code_word (m := ⟨1, 1⟩) (meth := k1m1) (c := k1c1) (by decide +kernel) rfl rfl rfl (by decide +kernel)
set_option maxRecDepth 65536 in
theorem w_c1 : (Jvm.Cond.code ({ cls := "com/example/hearthline/hearthline/BinaryEstimate", name := "of", desc := "(J)Lcom/example/hearthline/hearthline/BinaryEstimate;" } : Jvm.MethodName) prog_3_method_2_code (3 : Nat) (Option.some (Jvm.ClassFile.FieldType.object "com/example/hearthline/hearthline/BinaryEstimate"))).before args0 about1 = true := code_word (m := ⟨2, 1⟩) (meth := k2m1) (c := k2c1) (by decide +kernel) rfl rfl rfl (by decide +kernel)
set_option maxRecDepth 65536 in
theorem w_c2 : (Jvm.Cond.code ({ cls := "java/lang/Long", name := "numberOfLeadingZeros", desc := "(J)I" } : Jvm.MethodName) jdk_35_method_48_code (3 : Nat) (Option.some Jvm.ClassFile.FieldType.int)).before args0 about1 = true := code_word (m := ⟨8, 0⟩) (meth := k8m0) (c := k8c0) (by decide +kernel) rfl rfl rfl (by decide +kernel)
set_option maxRecDepth 65536 in
theorem w_c3 : (Jvm.Cond.code ({ cls := "java/lang/Integer", name := "numberOfLeadingZeros", desc := "(I)I" } : Jvm.MethodName) jdk_33_method_47_code (2 : Nat) (Option.some Jvm.ClassFile.FieldType.int)).before args0 about1 = true := code_word (m := ⟨9, 0⟩) (meth := k9m0) (c := k9c0) (by decide +kernel) rfl rfl rfl (by decide +kernel)
set_option maxRecDepth 65536 in
theorem w_c4 : (Jvm.Cond.code ({ cls := "com/example/hearthline/hearthline/BinaryEstimate", name := "<init>", desc := "(JI)V" } : Jvm.MethodName) prog_3_method_1_code (4 : Nat) (Option.none : Option Jvm.ClassFile.FieldType)).before args0 about1 = true := code_word (m := ⟨2, 0⟩) (meth := k2m0) (c := k2c0) (by decide +kernel) rfl rfl rfl (by decide +kernel)
set_option maxRecDepth 65536 in
theorem w_c5 : (Jvm.Cond.code ({ cls := "java/lang/Object", name := "<init>", desc := "()V" } : Jvm.MethodName) object_method_1_code (1 : Nat) (Option.none : Option Jvm.ClassFile.FieldType)).before args0 about1 = true := code_word (m := ⟨0, 0⟩) (meth := k0m0) (c := k0c0) (by decide +kernel) rfl rfl rfl (by decide +kernel)
set_option maxRecDepth 65536 in
theorem w_c6 : (Jvm.Cond.code ({ cls := "com/example/hearthline/hearthline/BinaryEstimate", name := "mantissa", desc := "()J" } : Jvm.MethodName) prog_3_method_3_code (1 : Nat) (Option.some Jvm.ClassFile.FieldType.long)).before args0 about1 = true := code_word (m := ⟨2, 2⟩) (meth := k2m2) (c := k2c2) (by decide +kernel) rfl rfl rfl (by decide +kernel)
set_option maxRecDepth 65536 in
theorem w_c7 : (Jvm.Cond.code ({ cls := "com/example/hearthline/hearthline/BinaryEstimate", name := "exponent", desc := "()I" } : Jvm.MethodName) prog_3_method_4_code (1 : Nat) (Option.some Jvm.ClassFile.FieldType.int)).before args0 about1 = true := code_word (m := ⟨2, 3⟩) (meth := k2m3) (c := k2c3) (by decide +kernel) rfl rfl rfl (by decide +kernel)
def codes1 : List Jvm.Cond := [Jvm.Cond.code x code maxLocals ret, Jvm.Cond.code ({ cls := "com/example/hearthline/hearthline/BinaryEstimate", name := "of", desc := "(J)Lcom/example/hearthline/hearthline/BinaryEstimate;" } : Jvm.MethodName) prog_3_method_2_code (3 : Nat) (Option.some (Jvm.ClassFile.FieldType.object "com/example/hearthline/hearthline/BinaryEstimate")), Jvm.Cond.code ({ cls := "java/lang/Long", name := "numberOfLeadingZeros", desc := "(J)I" } : Jvm.MethodName) jdk_35_method_48_code (3 : Nat) (Option.some Jvm.ClassFile.FieldType.int), Jvm.Cond.code ({ cls := "java/lang/Integer", name := "numberOfLeadingZeros", desc := "(I)I" } : Jvm.MethodName) jdk_33_method_47_code (2 : Nat) (Option.some Jvm.ClassFile.FieldType.int), Jvm.Cond.code ({ cls := "com/example/hearthline/hearthline/BinaryEstimate", name := "<init>", desc := "(JI)V" } : Jvm.MethodName) prog_3_method_1_code (4 : Nat) (Option.none : Option Jvm.ClassFile.FieldType), Jvm.Cond.code ({ cls := "java/lang/Object", name := "<init>", desc := "()V" } : Jvm.MethodName) object_method_1_code (1 : Nat) (Option.none : Option Jvm.ClassFile.FieldType), Jvm.Cond.code ({ cls := "com/example/hearthline/hearthline/BinaryEstimate", name := "mantissa", desc := "()J" } : Jvm.MethodName) prog_3_method_3_code (1 : Nat) (Option.some Jvm.ClassFile.FieldType.long), Jvm.Cond.code ({ cls := "com/example/hearthline/hearthline/BinaryEstimate", name := "exponent", desc := "()I" } : Jvm.MethodName) prog_3_method_4_code (1 : Nat) (Option.some Jvm.ClassFile.FieldType.int)]
set_option maxRecDepth 65536 in
theorem codes_eq : words1.filter isCode = codes1 := rfl
theorem w_codes : ∀ c ∈ words1.filter isCode, c.before args0 about1 = true := by
  rw [codes_eq]
  intro c hc
  simp only [codes1, List.mem_cons, List.not_mem_nil, or_false] at hc
  rcases hc with rfl | rfl | rfl | rfl | rfl | rfl | rfl | rfl
  · exact w_c0
  · exact w_c1
  · exact w_c2
  · exact w_c3
  · exact w_c4
  · exact w_c5
  · exact w_c6
  · exact w_c7
set_option maxRecDepth 65536 in
theorem w_t1 : (words1.take 24).all (fun c => isCode c || c.before args0 about1) = true := by decide +kernel
set_option maxRecDepth 65536 in
theorem w_t2 : (words1.drop 24).all (fun c => isCode c || c.before args0 about1) = true := by decide +kernel
theorem w_tables : (allAtoms (Jvm.Cond.code x code maxLocals ret :: tables_1)).before args0 about1 = true := by
  rw [allAtoms_all]
  show words1.all (fun c => c.before args0 about1) = true
  refine all_split ?_ w_codes
  rw [← List.take_append_drop 24 words1, List.all_append, w_t1, w_t2]
  rfl
set_option maxRecDepth 65536 in
theorem w_case : (Jvm.Cond.and given_1 narrow_1).before args0 about1 = true := by decide +kernel
theorem w_applies : (headSpec (Jvm.Cond.code x code maxLocals ret :: tables_1) room_1).applies x e0.platform about1 = true :=
  (Spec.applies_iff w_frames).mpr ⟨w_running, w_runnable, w_alone, w_named, w_hears, w_ripe, w_room, w_tables⟩
theorem atStart : AtStart classFile x code maxLocals ret World_1 tables_1 room_1 Calls_1 rest_1 Pre_1 launch0 p0 e0 about1 theMethod args0 below0 :=
  ⟨lists_1, trivial, launch0.admits_env _ _ _, launch0.least_env, fairChoices_fair.cas, fairChoices_fair.clock, w_frames, w_args, w_heap, w_applies, trivial, trivial, w_case⟩
end start1
theorem witness_1 : WitnessClaimed_1 := ⟨start1.p0, start1.e0, start1.about1, start1.theMethod, start1.args0, start1.below0, start1.atStart⟩
end Jvm.Pilot.@@N@@
