import JvmDerived
import JvmDerived.Pilot.@@N@@Statement
import JvmDerived.Pilot.@@N@@Code
set_option linter.unusedVariables false
set_option linter.unusedSimpArgs false
namespace Jvm.Pilot.@@N@@
open Jvm Jvm.ClassFile Sem Op Lib Jvm.Free Jvm.Stand Jvm.LawKit Jvm.RoadKit Bundle Jvm.Pilot.@@N@@.Jvm.D
/-! own_kit: a walk as 'what is left to do' (Go), contracts (Con), calls and returns in that form -/
/-- from F the run comes to an end of which P holds -/
def Go (tb : Tables) (e : Env) (below : List Frame) (P : Outcome → State → Prop) (F : State) : Prop :=
  ∃ s₂ o, Steps tb e below F s₂ ∧ s₂.status = .running ∧ Ended s₂ below o ∧ P o s₂
theorem Go.step {tb : Tables} {e : Env} {below : List Frame} {P : Outcome → State → Prop} {A B : State} (h : ∀ t, Steps tb e below B t → Steps tb e below A t) (k : Go tb e below P B) : Go tb e below P A := by
  obtain ⟨s₂, o, h1, h2, h3, h4⟩ := k
  exact ⟨s₂, o, h _ h1, h2, h3, h4⟩
theorem Go.via {tb : Tables} {e : Env} {below : List Frame} {P : Outcome → State → Prop} {A B : State} (h : Steps tb e below A B) (k : Go tb e below P B) : Go tb e below P A :=
  Go.step (fun t q => h.trans q) k
/-- how a walk ends: it returns v, Q holds of v, the heap and the places written; at most C cells and S slots were made -/
def EndsAs (s : State) (C S : Nat) (Q : Option Value → Heap → List Loc → Prop) (o : Outcome) (U : State) : Prop :=
  ∃ v L, o = .returned v ∧ Q v U.heap L ∧ FrameEnd s o U L C S
/-- the contract of a body at arguments 'as' and heap h0 -/
abbrev Con (l : Launch) (Z : State) (y : MethodName) (bytes : ByteArray) (mx : Nat) (ret : Option FieldType) (ws : List Jvm.Cond) (rm : Room) (as : Array Value) (h0 : Heap) (Q : Option Value → Heap → List Loc → Prop) : Prop :=
  MetFree l y (head1 (Jvm.Cond.code y bytes mx ret :: ws) rm) (fun a U => a = as ∧ Z.Warmed39 U.vm ∧ U.heap = h0) (fun _ _ _ _ _ => True) (fun _ U o U' => ∃ v L, o = .returned v ∧ Q v U'.heap L ∧ FrameEnd U o U' L rm.cells rm.slots)
theorem Con.of {l : Launch} {Z : State} {y : MethodName} {bytes : ByteArray} {mx : Nat} {ret : Option FieldType} {ws : List Jvm.Cond} {rm : Room} {as : Array Value} {h0 : Heap} {Q : Option Value → Heap → List Loc → Prop} (hpl : plainFor y = true)
    (body : ∀ (p : Program) (e : Env) (s : State) (m : MethodId) (below : List Frame) (meth : Method) (c : Code) (s₁ : State), Z.Warmed39 s.vm → p.tables.exec = Jvm.exec → c.code = bytes → c.maxLocals = mx → s.vm.findClass y.cls = some m.cls → meth.sig.returnType = ret → meth.locks = false → meth.name = y.name →
      Stand p l e rm s m as below meth c s₁ [] 0 0 → s₁.heap = h0 → Go p.tables e below (EndsAs s rm.cells rm.slots Q) (s₁.setTop (entryFrame m as mx))) :
    Con l Z y bytes mx ret ws rm as h0 Q := by
  refine MetFree.of_bodySF hpl hisR ?_
  intro p e s m args below meth c s₁ Bd hml0 hP hK
  obtain ⟨rfl, hZ, hh⟩ := hP
  exact body p e s m below meth c s₁ hZ Bd.exec Bd.bytes hml0 (findClass_of_methodNamed Bd.named) Bd.returns Bd.notSynchronized (name_of_methodNamed Bd.named Bd.method).1 (Stand.of_body Bd) (by rw [← hh, Bd.state]; rfl)
section Kit
variable {p : Program} {l : Launch} {e : Env} {R : Room} {s : State} {m : MethodId} {args : Array Value} {below : List Frame} {meth : Method} {c : Code} {T : State} {locs : List Loc} {cells slots : Nat} {Z : State} {a0 : Array Value} {h : Heap}
theorem leafO (X : Stand p l e R s m args below meth c T locs cells slots) (hx : p.tables.exec = Jvm.exec) {t : FieldType} (hret : meth.sig.returnType = some t) (hlk : meth.locks = false) {pc : Nat} {Ls : Array Slot} {w : Value} {i : Instr} {rest : List Value} (hn : narrow t w = w)
    (hi : (i = .ireturn ∧ (t = .int ∨ t = .boolean ∨ t = .byte ∨ t = .char ∨ t = .short) ∧ ∃ z, w = .int z) ∨ (i = .lreturn ∧ t = .long ∧ ∃ z, w = .long z) ∨ (i = .dreturn ∧ t = .double ∧ ∃ z, w = .double z) ∨ (i = .freturn ∧ t = .float ∧ ∃ z, w = .float z) ∨ (i = .areturn ∧ t.isReference = true ∧ w.isRef = true))
    (hd : decode c.code pc = .ok (i, 1)) {Q : Option Value → Heap → List Loc → Prop} {C S : Nat} (hQ : Q (some w) T.heap locs) (hC : cells ≤ C) (hS : slots ≤ S) :
    Go p.tables e below (EndsAs s C S Q) (T.setTop (mkF m pc Ls (w :: rest))) := by
  obtain ⟨fs, hr, hrun, hended, hW, hsame⟩ := X.leave (v := some w) (fun h => by rw [hret] at h; cases h) hlk
  exact ⟨_, _, retOut X hx hret hn hi hd hr, hrun, hended, _, _, rfl, hQ, ⟨_, rfl⟩, hW, hsame.mono hC hS⟩
theorem leafI (X : Stand p l e R s m args below meth c T locs cells slots) (hx : p.tables.exec = Jvm.exec) (hret : meth.sig.returnType = some .int) (hlk : meth.locks = false) {pc : Nat} {Ls : Array Slot} {z : Int32} {rest : List Value}
    (hd : decode c.code pc = .ok (.ireturn, 1)) {Q : Option Value → Heap → List Loc → Prop} {C S : Nat} (hQ : Q (some (.int z)) T.heap locs) (hC : cells ≤ C) (hS : slots ≤ S) :
    Go p.tables e below (EndsAs s C S Q) (T.setTop (mkF m pc Ls (.int z :: rest))) :=
  leafO X hx hret hlk rfl (Or.inl ⟨rfl, Or.inl rfl, _, rfl⟩) hd hQ hC hS
theorem leafJ (X : Stand p l e R s m args below meth c T locs cells slots) (hx : p.tables.exec = Jvm.exec) (hret : meth.sig.returnType = some .long) (hlk : meth.locks = false) {pc : Nat} {Ls : Array Slot} {z : Int64} {rest : List Value}
    (hd : decode c.code pc = .ok (.lreturn, 1)) {Q : Option Value → Heap → List Loc → Prop} {C S : Nat} (hQ : Q (some (.long z)) T.heap locs) (hC : cells ≤ C) (hS : slots ≤ S) :
    Go p.tables e below (EndsAs s C S Q) (T.setTop (mkF m pc Ls (.long z :: rest))) :=
  leafO X hx hret hlk rfl (Or.inr (Or.inl ⟨rfl, rfl, _, rfl⟩)) hd hQ hC hS
theorem leafA (X : Stand p l e R s m args below meth c T locs cells slots) (hx : p.tables.exec = Jvm.exec) {t : FieldType} (hret : meth.sig.returnType = some t) (ht : t.isReference = true) (hlk : meth.locks = false) {pc : Nat} {Ls : Array Slot} {w : Value} {rest : List Value} (hw : w.isRef = true) (hn : narrow t w = w)
    (hd : decode c.code pc = .ok (.areturn, 1)) {Q : Option Value → Heap → List Loc → Prop} {C S : Nat} (hQ : Q (some w) T.heap locs) (hC : cells ≤ C) (hS : slots ≤ S) :
    Go p.tables e below (EndsAs s C S Q) (T.setTop (mkF m pc Ls (w :: rest))) :=
  leafO X hx hret hlk hn (Or.inr (Or.inr (Or.inr (Or.inr ⟨rfl, ht, hw⟩)))) hd hQ hC hS
theorem leafN (X : Stand p l e R s m args below meth c T locs cells slots) (hx : p.tables.exec = Jvm.exec) {t : FieldType} (hret : meth.sig.returnType = some t) (ht : t = .boolean ∨ t = .byte ∨ t = .char ∨ t = .short) (hlk : meth.locks = false) {pc : Nat} {Ls : Array Slot} {z w : Int32} {rest : List Value} (hw : nar t z = w)
    (hd : decode c.code pc = .ok (.ireturn, 1)) {Q : Option Value → Heap → List Loc → Prop} {C S : Nat} (hQ : Q (some (.int w)) T.heap locs) (hC : cells ≤ C) (hS : slots ≤ S) :
    Go p.tables e below (EndsAs s C S Q) (T.setTop (mkF m pc Ls (.int z :: rest))) := by
  subst hw
  obtain ⟨fs, hr, hrun, hended, hW, hsame⟩ := X.leave (v := some (.int (nar t z))) (fun h => by rw [hret] at h; cases h) hlk
  exact ⟨_, _, retN X hx hret ht hd hr, hrun, hended, _, _, rfl, hQ, ⟨_, rfl⟩, hW, hsame.mono hC hS⟩
theorem leafV (X : Stand p l e R s m args below meth c T locs cells slots) (hx : p.tables.exec = Jvm.exec) (hret : meth.sig.returnType = none) (hlk : meth.locks = false) {pc : Nat} {Ls : Array Slot}
    (hd : decode c.code pc = .ok (.return_, 1)) {Q : Option Value → Heap → List Loc → Prop} {C S : Nat} (hQ : Q none T.heap locs) (hC : cells ≤ C) (hS : slots ≤ S) :
    Go p.tables e below (EndsAs s C S Q) (T.setTop (mkF m pc Ls [])) := by
  obtain ⟨fs, hr, hrun, hended, hW, hsame⟩ := X.leave (v := none) (fun _ => rfl) hlk
  exact ⟨_, _, X.returnOut hx hret hd hr, hrun, hended, _, _, rfl, hQ, ⟨_, rfl⟩, hW, hsame.mono hC hS⟩
theorem goS (X : Stand p l e R s m args below meth c T locs cells slots) (hx : p.tables.exec = Jvm.exec) (hZ : Z.Warmed39 s.vm) {own : String} {index : Nat} {y : MethodName} {bytes : ByteArray} {maxL : Nat} {ret : Option FieldType} (hown : s.vm.findClass own = some m.cls)
    (w1 : (Jvm.Cond.methodLink own index y).before a0 Z = true) (w2 : (Jvm.Cond.static y).before a0 Z = true) (w3 : (Jvm.Cond.initialized y.cls).before a0 Z = true) (w4 : (Jvm.Cond.code y bytes maxL ret).before a0 Z = true)
    (hy : y.cls ≠ "java/lang/invoke/MethodHandle" ∧ y.cls ≠ "java/lang/invoke/VarHandle") {rm : Room} {as : Array Value} {Qc : Option Value → Heap → List Loc → Prop} (hM : Con l Z y bytes maxL ret [] rm as h Qc) (eT : T.heap = h)
    {pc : Nat} {Ls : Array Slot} {st : List Value} (hsize : Ls.size = c.maxLocals) (argsL rest : List Value) (has : argsL.toArray = as) {ps : List FieldType} {r : Option FieldType} (hpd : parseMethodDescriptor y.desc = some ⟨ps, r⟩) (hlen : argsL.length = ps.length) (hst : st = argsL.reverse ++ rest)
    (W : Nat) (hW : (rest.map fun v => v.category).sum = W) (hd : decode c.code pc = .ok (.invokestatic index, 3)) (hf : rm.frames + 1 ≤ R.frames) (hl : W + (maxL + 11) + rm.locals ≤ R.locals) (hc : cells + rm.cells ≤ R.cells) (hs : slots + rm.slots ≤ R.slots) {P : Outcome → State → Prop}
    (k : ∀ (T' : State) (L : List Loc) (v : Option Value), Qc v T'.heap L → Stand p l e R s m args below meth c T' (locs ++ L) (cells + rm.cells) (slots + rm.slots) → Go p.tables e below P (T'.setTop (mkF m (pc + 3) Ls (v.toList ++ rest)))) :
    Go p.tables e below P (T.setTop (mkF m pc Ls st)) := by
  subst hst
  obtain ⟨v, _, ⟨T', L', k', n'⟩, -, X', ⟨L, hQ, q1, q2, q3⟩, st⟩ := Jvm.LawKit.callS X hx (y := y) hown (mvT hZ w1) (mvT hZ w2) (mvT hZ w3) (mvT hZ w4) hy (backOf (W := W) hM hZ w4 w3 hf hl) (g := mkF m pc Ls (argsL.reverse ++ rest)) rfl hsize (argsL := argsL) (rest := rest) (lenOf hpd hlen) rfl (by show 2 * 0 + _ ≤ _; omega) hd (fun _ _ => ⟨has, eT, hc, hs⟩)
  dsimp only [Pt.U, Pt.locs, Pt.cells, Pt.slots] at X' q1 q2 q3 st hQ
  subst q1 q2 q3
  exact Go.step st (k T' L v hQ X')
theorem goI (X : Stand p l e R s m args below meth c T locs cells slots) (hx : p.tables.exec = Jvm.exec) (hZ : Z.Warmed39 s.vm) {own : String} {index : Nat} {y : MethodName} {bytes : ByteArray} {maxL : Nat} (hy1 : y.name = "<init>") (hown : s.vm.findClass own = some m.cls)
    (w1 : (Jvm.Cond.methodLink own index y).before a0 Z = true) (w2 : (Jvm.Cond.instanceMethod y).before a0 Z = true) (w3 : (Jvm.Cond.initialized y.cls).before a0 Z = true) (w4 : (Jvm.Cond.code y bytes maxL none).before a0 Z = true)
    (hy : y.cls ≠ "java/lang/invoke/MethodHandle" ∧ y.cls ≠ "java/lang/invoke/VarHandle") {rm : Room} {as : Array Value} {Qc : Option Value → Heap → List Loc → Prop} (hM : Con l Z y bytes maxL none [] rm as h Qc) (eT : T.heap = h)
    {pc : Nat} {Ls : Array Slot} {st : List Value} (hsize : Ls.size = c.maxLocals) (a : Addr) (argsL rest : List Value) (has : (Value.ref a :: argsL).toArray = as) {ps : List FieldType} {r : Option FieldType} (hpd : parseMethodDescriptor y.desc = some ⟨ps, r⟩) (hlen : argsL.length = ps.length) (hst : st = argsL.reverse ++ .ref a :: rest)
    (W : Nat) (hW : (rest.map fun v => v.category).sum = W) (hd : decode c.code pc = .ok (.invokespecial index, 3)) (hf : rm.frames + 1 ≤ R.frames) (hl : W + (maxL + 11) + rm.locals ≤ R.locals) (hc : cells + rm.cells ≤ R.cells) (hs : slots + rm.slots ≤ R.slots) {P : Outcome → State → Prop}
    (k : ∀ (T' : State) (L : List Loc) (v : Option Value), Qc v T'.heap L → Stand p l e R s m args below meth c T' (locs ++ L) (cells + rm.cells) (slots + rm.slots) → Go p.tables e below P (T'.setTop (mkF m (pc + 3) Ls (v.toList ++ rest)))) :
    Go p.tables e below P (T.setTop (mkF m pc Ls st)) := by
  subst hst
  obtain ⟨v, _, ⟨T', L', k', n'⟩, -, X', ⟨L, hQ, q1, q2, q3⟩, st⟩ := X.specialBack hx (y := y) hy1 hown (mvT hZ w1) (mvT hZ w2) (mvT hZ w4) hy (backOf (W := W) hM hZ w4 w3 hf hl) (g := mkF m pc Ls (argsL.reverse ++ .ref a :: rest)) rfl hsize (Steps.refl _) (a := a) (argsL := argsL) (rest := rest) (lenOf hpd hlen) rfl (by show 2 * 0 + _ ≤ _; omega) hd (fun _ _ => ⟨has, eT, hc, hs⟩)
  dsimp only [Pt.U, Pt.locs, Pt.cells, Pt.slots] at X' q1 q2 q3 st hQ
  subst q1 q2 q3
  exact Go.via st (k T' L v hQ X')
theorem goV (X : Stand p l e R s m args below meth c T locs cells slots) (hx : p.tables.exec = Jvm.exec) (hZ : Z.Warmed39 s.vm) {own C : String} {index : Nat} {y z : MethodName} {bytes : ByteArray} {maxL : Nat} {ret : Option FieldType} (hown : s.vm.findClass own = some m.cls)
    (w1 : (Jvm.Cond.methodLink own index y).before a0 Z = true) (w2 : (Jvm.Cond.declares y).before a0 Z = true) (hnf : NotFace s y) (w5 : (Jvm.Cond.selects C y z).before a0 Z = true) (w6 : (Jvm.Cond.instanceMethod z).before a0 Z = true) (w3 : (Jvm.Cond.initialized z.cls).before a0 Z = true) (w4 : (Jvm.Cond.code z bytes maxL ret).before a0 Z = true)
    (hy : y.cls ≠ "java/lang/invoke/MethodHandle" ∧ y.cls ≠ "java/lang/invoke/VarHandle") {rm : Room} {as : Array Value} {Qc : Option Value → Heap → List Loc → Prop} (hM : Con l Z z bytes maxL ret [] rm as h Qc) (eT : T.heap = h)
    {a : Addr} (E : Exa Z h a C) {pc : Nat} {Ls : Array Slot} {st : List Value} (hsize : Ls.size = c.maxLocals) (argsL rest : List Value) (has : (Value.ref a :: argsL).toArray = as) {ps : List FieldType} {r : Option FieldType} (hpd : parseMethodDescriptor y.desc = some ⟨ps, r⟩) (hlen : argsL.length = ps.length) (hst : st = argsL.reverse ++ .ref a :: rest)
    (W : Nat) (hW : (rest.map fun v => v.category).sum = W) (hd : decode c.code pc = .ok (.invokevirtual index, 3)) (hf : rm.frames + 1 ≤ R.frames) (hl : W + (maxL + 11) + rm.locals ≤ R.locals) (hc : cells + rm.cells ≤ R.cells) (hs : slots + rm.slots ≤ R.slots) {P : Outcome → State → Prop}
    (k : ∀ (T' : State) (L : List Loc) (v : Option Value), Qc v T'.heap L → Stand p l e R s m args below meth c T' (locs ++ L) (cells + rm.cells) (slots + rm.slots) → Go p.tables e below P (T'.setTop (mkF m (pc + 3) Ls (v.toList ++ rest)))) :
    Go p.tables e below P (T.setTop (mkF m pc Ls st)) := by
  subst hst
  obtain ⟨cq, kq, qa, qb, qc⟩ := isOf hZ eT E
  obtain ⟨v, _, ⟨T', L', k', n'⟩, -, X', ⟨L, hQ, q1, q2, q3⟩, st⟩ := X.virtualBack hx (y := y) (z := z) hown (mvT hZ w1) (mvT hZ w2) hnf (mvT hZ w5) (mvT hZ w6) hy (backOf (W := W) hM hZ w4 w3 hf hl) qa qc (g := mkF m pc Ls (argsL.reverse ++ .ref a :: rest)) rfl hsize (Steps.refl _) (argsL := argsL) (rest := rest) (lenOf hpd hlen) rfl (by show 2 * 0 + _ ≤ _; omega) hd (fun _ _ => ⟨has, eT, hc, hs⟩)
  dsimp only [Pt.U, Pt.locs, Pt.cells, Pt.slots] at X' q1 q2 q3 st hQ
  subst q1 q2 q3
  exact Go.via st (k T' L v hQ X')
end Kit
/-! plain facts: naturals as ints, bits of a long -/
theorem own_i {n : Nat} (h : n < 2147483648) : (Int32.ofNat n).toInt = n := Int32.toInt_ofNat_of_lt (by omega)
theorem own_nat (x : Int32) (h0 : 0 ≤ x.toInt) : ∃ n : Nat, n < 2147483648 ∧ (n : Int) = x.toInt ∧ x = Int32.ofNat n := by
  have l := x.toInt_lt
  refine ⟨x.toInt.toNat, by omega, by omega, ?_⟩
  apply Int32.toInt_inj.mp
  rw [own_i (by omega)]
  omega
theorem own_lt {i n : Nat} (hi : i < 2147483648) (hn : n < 2147483648) : Int32.ofNat i < Int32.ofNat n ↔ i < n := by
  rw [Int32.lt_iff_toInt_lt, own_i hi, own_i hn]; omega
theorem own_eq {i n : Nat} (hi : i < 2147483648) (hn : n < 2147483648) : Int32.ofNat i = Int32.ofNat n ↔ i = n := by
  rw [← Int32.toInt_inj, own_i hi, own_i hn]; omega
theorem own_clamp {n : Nat} (h : n < 2147483648) : (Int32.ofNat n).toNatClampNeg = n := by
  rw [Int32.toNatClampNeg, own_i h]; rfl
theorem own_nn {n : Nat} (h : n < 2147483648) : ¬ Int32.ofNat n < 0 := by
  rw [Int32.lt_iff_toInt_lt, own_i h, show (0 : Int32).toInt = 0 from rfl]; omega
theorem own_in {i sz : Nat} (h : i < sz) (hi : i < 2147483648) : ¬ (Int32.ofNat i < 0 ∨ sz ≤ (Int32.ofNat i).toNatClampNeg) := by
  rintro (q | q)
  · exact own_nn hi q
  · rw [own_clamp hi] at q; omega
theorem own_one (i : Nat) : Int32.ofNat i + (1 : Int32) = Int32.ofNat (i + 1) := (Int32.ofNat_add i 1).symm
theorem own_shr6 {n : Nat} (h : n < 2147483648) : ((Int32.ofNat n).toUInt32 >>> ((6 : Int32) &&& 31).toUInt32).toInt32 = Int32.ofNat (n / 64) := by
  apply Int32.toInt_inj.mp
  rw [c_iushr (Int32.ofNat n) 6 6 (by decide) (by decide), own_i h, own_i (by omega), show ((2 ^ 6 : Nat) : Int) = 64 from rfl]
  omega
theorem own_shl6 {n : Nat} (h : n < 16777216) : (Int32.ofNat n) <<< ((6 : Int32) &&& 31) = Int32.ofNat (64 * n) := by
  apply Int32.toInt_inj.mp
  have h1 := c_ishl (Int32.ofNat n) 6 6 (by decide)
  rw [own_i (by omega), show ((2 ^ 6 : Nat) : Int) = 64 from rfl] at h1
  have l1 := ((Int32.ofNat n) <<< ((6 : Int32) &&& 31)).toInt_lt; have l2 := ((Int32.ofNat n) <<< ((6 : Int32) &&& 31)).le_toInt
  rw [own_i (by omega)]
  omega
abbrev own_bit (v : Int64) (j : Nat) : Bool := v.toBitVec.getLsbD j
theorem own_ext {v w : Int64} (h : ∀ j, j < 64 → own_bit v j = own_bit w j) : v = w := by
  apply Int64.toBitVec_inj.mp
  exact BitVec.eq_of_getLsbD_eq (fun i hi => h i hi)
theorem own_m1b (j : Nat) (h : j < 64) : own_bit (-1) j = true := by
  have : ∀ j : Fin 64, own_bit (-1) j.1 = true := by decide +kernel
  exact this ⟨j, h⟩
theorem own_zb (j : Nat) : own_bit 0 j = false := by
  show (0#64).getLsbD j = false
  simp
theorem own_shl (x : Int64) {n : Nat} (h : n < 2147483648) : (x <<< (Int32.ofNat n &&& 0x3f).toInt64).toBitVec = x.toBitVec <<< (n % 64) := by
  have hk : (Int32.ofNat n).toBitVec.toNat % 64 = n % 64 := by
    show (BitVec.ofNat 32 n).toNat % 64 = _
    rw [BitVec.toNat_ofNat]; omega
  show x.toBitVec <<< (((Int32.ofNat n) &&& 0x3f).toInt64.toBitVec.smod 64) = _
  rw [BitVec.shiftLeft_eq', (sm64 _ _ hk).1, smod64 _ (sm64 _ _ hk).2]
theorem own_bit1 {n j : Nat} (h : n < 2147483648) (hj : j < 64) : own_bit ((1 : Int64) <<< (Int32.ofNat n &&& 0x3f).toInt64) j = decide (j = n % 64) := by
  unfold own_bit
  rw [own_shl 1 h, BitVec.getLsbD_shiftLeft, show (1 : Int64).toBitVec = 1#64 from rfl, BitVec.getLsbD_one]
  by_cases q : j = n % 64
  · subst q; simp [hj]
  · simp only [q, decide_false, hj, decide_true, Bool.true_and]
    by_cases r : j < n % 64
    · simp [r]
    · have : ¬ j - n % 64 = 0 := by omega
      simp [this]
theorem own_bitm {n j : Nat} (h : n < 2147483648) (hj : j < 64) : own_bit ((-1 : Int64) <<< (Int32.ofNat n &&& 0x3f).toInt64) j = decide (n % 64 ≤ j) := by
  unfold own_bit
  rw [own_shl (-1) h, BitVec.getLsbD_shiftLeft]
  by_cases r : j < n % 64
  · simp [r, show ¬ n % 64 ≤ j by omega]
  · have := own_m1b (j - n % 64) (by omega)
    unfold own_bit at this
    rw [this]; simp [r, hj, show n % 64 ≤ j by omega]
theorem own_bor (v w : Int64) (j : Nat) : own_bit (v ||| w) j = (own_bit v j || own_bit w j) := by
  unfold own_bit; rw [Int64.toBitVec_or, BitVec.getLsbD_or]
theorem own_band (v w : Int64) (j : Nat) : own_bit (v &&& w) j = (own_bit v j && own_bit w j) := by
  unfold own_bit; rw [Int64.toBitVec_and, BitVec.getLsbD_and]
theorem own_bxor (v w : Int64) (j : Nat) : own_bit (v ^^^ w) j = (own_bit v j ^^ own_bit w j) := by
  unfold own_bit; rw [Int64.toBitVec_xor, BitVec.getLsbD_xor]
theorem own_bnot (v : Int64) {j : Nat} (h : j < 64) : own_bit (v ^^^ (-1 : Int64)) j = !own_bit v j := by
  rw [own_bxor, own_m1b j h]; simp
/-- what a word of a level says -/
def Wd (v : Int64) (g : Nat → Bool) (w : Nat) : Prop := ∀ j, j < 64 → own_bit v j = g (64 * w + j)
theorem Wd.fill {v : Int64} {g : Nat → Bool} {n : Nat} (h : n < 2147483648) (H : Wd v g (n / 64)) : Wd (v ||| ((1 : Int64) <<< (Int32.ofNat n &&& 0x3f).toInt64)) (fun y => g y || decide (y = n)) (n / 64) := fun j hj => by
  rw [own_bor, own_bit1 h hj, H j hj]
  have : decide (j = n % 64) = decide (64 * (n / 64) + j = n) := by
    by_cases q : j = n % 64
    · rw [decide_eq_true q, decide_eq_true (by omega)]
    · rw [decide_eq_false q, decide_eq_false (by omega)]
  rw [this]
theorem Wd.clear {v : Int64} {g : Nat → Bool} {n : Nat} (h : n < 2147483648) (H : Wd v g (n / 64)) : Wd (v &&& (((1 : Int64) <<< (Int32.ofNat n &&& 0x3f).toInt64) ^^^ (-1 : Int64))) (fun y => g y && !decide (y = n)) (n / 64) := fun j hj => by
  rw [own_band, own_bnot _ hj, own_bit1 h hj, H j hj]
  have : decide (j = n % 64) = decide (64 * (n / 64) + j = n) := by
    by_cases q : j = n % 64
    · rw [decide_eq_true q, decide_eq_true (by omega)]
    · rw [decide_eq_false q, decide_eq_false (by omega)]
  rw [this]
theorem Wd.other {v : Int64} {g g' : Nat → Bool} {w : Nat} (H : Wd v g w) (q : ∀ j, j < 64 → g' (64 * w + j) = g (64 * w + j)) : Wd v g' w := fun j hj => by rw [q j hj]; exact H j hj
theorem Wd.notfull {v : Int64} {g : Nat → Bool} {w : Nat} (H : Wd v g w) (q : ∃ j, j < 64 ∧ g (64 * w + j) = false) : ¬ v = (-1 : Int64) := fun e => by
  obtain ⟨j, hj, hg⟩ := q
  have := H j hj
  rw [e, own_m1b j hj, hg] at this
  cases this
theorem Wd.room0 {v : Int64} {g : Nat → Bool} {n : Nat} (h : n < 2147483648) (H : Wd v g (n / 64)) (z : ((v ^^^ (-1 : Int64)) &&& ((-1 : Int64) <<< (Int32.ofNat n &&& 0x3f).toInt64)) = (0 : Int64)) : ∀ y, n ≤ y → y < 64 * (n / 64) + 64 → g y = true := fun y h1 h2 => by
  have hj : y - 64 * (n / 64) < 64 := by omega
  have q : own_bit ((v ^^^ (-1 : Int64)) &&& ((-1 : Int64) <<< (Int32.ofNat n &&& 0x3f).toInt64)) (y - 64 * (n / 64)) = own_bit 0 (y - 64 * (n / 64)) := by rw [z]
  rw [own_band, own_bnot _ hj, own_bitm h hj, own_zb, H _ hj, show 64 * (n / 64) + (y - 64 * (n / 64)) = y by omega, decide_eq_true (show n % 64 ≤ y - 64 * (n / 64) by omega)] at q
  cases hg : g y
  · rw [hg] at q; cases q
  · rfl
/-- what numberOfTrailingZeros answers -/
def NTZ (v : Int64) (k : Int32) : Prop := ∃ K : Nat, K < 64 ∧ k = Int32.ofNat K ∧ own_bit v K = true ∧ ∀ j, j < K → own_bit v j = false
theorem Wd.roomN {v : Int64} {g : Nat → Bool} {n : Nat} {k : Int32} (h : n < 2147483648) (H : Wd v g (n / 64)) (z : NTZ ((v ^^^ (-1 : Int64)) &&& ((-1 : Int64) <<< (Int32.ofNat n &&& 0x3f).toInt64)) k) : ∃ K : Nat, K < 64 ∧ k = Int32.ofNat K ∧ n ≤ 64 * (n / 64) + K ∧ g (64 * (n / 64) + K) = false ∧ ∀ y, n ≤ y → y < 64 * (n / 64) + K → g y = true := by
  obtain ⟨K, k1, k2, k3, k4⟩ := z
  rw [own_band, own_bnot _ k1, own_bitm h k1, H _ k1] at k3
  have e : n % 64 ≤ K := by
    by_cases q : n % 64 ≤ K
    · exact q
    · rw [decide_eq_false q, Bool.and_false] at k3; cases k3
  refine ⟨K, k1, k2, by omega, ?_, fun y h1 h2 => ?_⟩
  · rw [decide_eq_true e, Bool.and_true] at k3
    simpa using k3
  · have q := k4 (y - 64 * (n / 64)) (by omega)
    rw [own_band, own_bnot _ (by omega), own_bitm h (by omega), H _ (by omega), show 64 * (n / 64) + (y - 64 * (n / 64)) = y by omega, decide_eq_true (show n % 64 ≤ y - 64 * (n / 64) by omega), Bool.and_true] at q
    simpa using q
theorem Wd.next {v : Int64} {g : Nat → Bool} {w : Nat} {k : Int32} (H : Wd v g w) (z : NTZ (v ^^^ (-1 : Int64)) k) : ∃ K : Nat, K < 64 ∧ k = Int32.ofNat K ∧ g (64 * w + K) = false ∧ ∀ y, 64 * w ≤ y → y < 64 * w + K → g y = true := by
  obtain ⟨K, k1, k2, k3, k4⟩ := z
  rw [own_bnot _ k1, H _ k1] at k3
  refine ⟨K, k1, k2, by simpa using k3, fun y h1 h2 => ?_⟩
  have q := k4 (y - 64 * w) (by omega)
  rw [own_bnot _ (by omega), H _ (by omega), show 64 * w + (y - 64 * w) = y by omega] at q
  simpa using q
theorem Wd.some {v : Int64} {g : Nat → Bool} {w : Nat} (H : Wd v g w) (q : ∃ j, j < 64 ∧ g (64 * w + j) = false) : ¬ (v ^^^ (-1 : Int64)) = 0 := fun e => by
  obtain ⟨j, hj, hg⟩ := q
  have : own_bit (v ^^^ (-1 : Int64)) j = own_bit 0 j := by rw [e]
  rw [own_bnot _ hj, H j hj, hg, own_zb] at this
  cases this
/-- the lowest set bit of an int: the mask below it -/
theorem own_low (x : Nat) (h : 0 < x) : ∃ K m : Nat, x = 2 ^ (K + 1) * m + 2 ^ K := by
  induction x using Nat.strongRecOn with
  | ind x ih =>
    by_cases q : x % 2 = 1
    · exact ⟨0, x / 2, by omega⟩
    · obtain ⟨K, m, e⟩ := ih (x / 2) (by omega) (by omega)
      refine ⟨K + 1, m, ?_⟩
      have e1 : (2 : Nat) ^ (K + 1 + 1) = 2 * 2 ^ (K + 1) := by rw [Nat.pow_succ, Nat.mul_comm]
      have e2 : (2 : Nat) ^ (K + 1) = 2 * 2 ^ K := by rw [Nat.pow_succ, Nat.mul_comm]
      rw [e1, Nat.mul_assoc]
      generalize 2 ^ (K + 1) * m = A at *
      omega
theorem own_mask (x : Int32) (h : ¬ x = 0) : ∃ K : Nat, K < 32 ∧ ((x ^^^ (-1 : Int32)) &&& (x - (1 : Int32))) = Int32.ofNat (2 ^ K - 1) ∧ x.toBitVec.getLsbD K = true ∧ ∀ j, j < K → x.toBitVec.getLsbD j = false := by
  have hx : 0 < x.toBitVec.toNat := by
    apply Nat.pos_of_ne_zero
    intro q
    apply h
    apply Int32.toBitVec_inj.mp
    exact BitVec.eq_of_toNat_eq q
  obtain ⟨K, m, e⟩ := own_low _ hx
  have lx := x.toBitVec.isLt
  have hp : 2 ^ K ≤ x.toBitVec.toNat := by rw [e]; exact Nat.le_add_left _ _
  have hK : K < 32 := by
    apply Nat.lt_of_not_le
    intro q
    have := Nat.pow_le_pow_right (show 0 < 2 by decide) q
    omega
  have pK : 0 < 2 ^ K := Nat.pow_pos (by decide)
  have e2 : (2 : Nat) ^ (K + 1) = 2 * 2 ^ K := by rw [Nat.pow_succ, Nat.mul_comm]
  have bx : ∀ j, x.toBitVec.getLsbD j = if j < K + 1 then decide (K = j) else m.testBit (j - (K + 1)) := fun j => by
    show x.toBitVec.toNat.testBit j = _
    rw [e, Nat.testBit_two_pow_mul_add _ (by omega), Nat.testBit_two_pow]
  have b1 : ∀ j, j < 32 → (x - (1 : Int32)).toBitVec.getLsbD j = if j < K + 1 then decide (j < K) else m.testBit (j - (K + 1)) := fun j hj => by
    have ee : (x - (1 : Int32)).toBitVec.toNat = 2 ^ (K + 1) * m + (2 ^ K - 1) := by
      rw [Int32.toBitVec_sub, BitVec.toNat_sub]
      show (2 ^ 32 - 1 + x.toBitVec.toNat) % 2 ^ 32 = _
      rw [e] at lx ⊢
      omega
    show (x - (1 : Int32)).toBitVec.toNat.testBit j = _
    rw [ee, Nat.testBit_two_pow_mul_add _ (by omega), Nat.testBit_two_pow_sub_one]
  refine ⟨K, hK, ?_, ?_, fun j hj => ?_⟩
  · apply Int32.toBitVec_inj.mp
    apply BitVec.eq_of_getLsbD_eq
    intro j hj
    have r : (Int32.ofNat (2 ^ K - 1)).toBitVec.getLsbD j = decide (j < K) := by
      show (BitVec.ofNat 32 (2 ^ K - 1)).getLsbD j = _
      rw [BitVec.getLsbD_ofNat, Nat.testBit_two_pow_sub_one, decide_eq_true hj, Bool.true_and]
    have mm : (-1 : Int32).toBitVec.getLsbD j = true := (by decide +kernel : ∀ j : Fin 32, (-1 : Int32).toBitVec.getLsbD j.1 = true) ⟨j, hj⟩
    rw [r, Int32.toBitVec_and, Int32.toBitVec_xor, BitVec.getLsbD_and, BitVec.getLsbD_xor, mm, bx, b1 j hj]
    by_cases c : j < K + 1
    · simp only [c, if_true]
      by_cases d : K = j
      · simp [d]
      · simp [d]
    · simp only [c, if_false, show ¬ j < K by omega, decide_false]
      cases m.testBit (j - (K + 1)) <;> rfl
  · rw [bx]; simp
  · rw [bx]; simp [show j < K + 1 by omega, show ¬ K = j by omega]
theorem own_hi64 {f : Nat} (h : f < 2147483648) : (Int32.ofNat f &&& (-64 : Int32)) = Int32.ofNat (64 * (f / 64)) := by
  apply Int32.toBitVec_inj.mp
  apply BitVec.eq_of_getLsbD_eq
  intro j hj
  have m : (-64 : Int32).toBitVec.getLsbD j = decide (6 ≤ j) := (by decide +kernel : ∀ j : Fin 32, (-64 : Int32).toBitVec.getLsbD j.1 = decide (6 ≤ j.1)) ⟨j, hj⟩
  rw [Int32.toBitVec_and, BitVec.getLsbD_and, m]
  show ((BitVec.ofNat 32 f).getLsbD j && decide (6 ≤ j)) = (BitVec.ofNat 32 (64 * (f / 64))).getLsbD j
  rw [BitVec.getLsbD_ofNat, BitVec.getLsbD_ofNat, decide_eq_true hj, Bool.true_and, Bool.true_and, show 64 * (f / 64) = 2 ^ 6 * (f / 2 ^ 6) from rfl, Nat.testBit_two_pow_mul, Nat.testBit_div_two_pow]
  by_cases q : 6 ≤ j
  · simp [q, show 6 + (j - 6) = j by omega, show j - 6 + 6 = j by omega]
  · simp [q]
theorem own_join {a K : Nat} (h : 64 * a + 64 < 2147483648) (hK : K < 64) : (Int32.ofNat (64 * a) ||| Int32.ofNat K) = Int32.ofNat (64 * a + K) := by
  apply Int32.toInt_inj.mp
  have q := c_or (Int32.ofNat (64 * a)) (Int32.ofNat K) 6 (by decide) 64 rfl (by rw [own_i (by omega)]; omega) (by rw [own_i (by omega)]; omega) (by rw [own_i (by omega)]; omega)
  rw [own_i (by omega), own_i (by omega)] at q
  have l1 := (Int32.ofNat (64 * a) ||| Int32.ofNat K).toInt_lt; have l2 := (Int32.ofNat (64 * a) ||| Int32.ofNat K).le_toInt
  rw [own_i (by omega)]
  omega
/-- an array of longs as a level -/
def Lv (Z : State) (h : Heap) (t : Addr) (M : Nat) (g : Nat → Bool) : Prop := ∃ cl : Cell, Arr Z h t cl .long ∧ cl.slots.size = M ∧ ∀ w, w < M → ∃ v, cl.slots[w]? = some (.long v) ∧ Wd v g w
theorem Lv.put {Z : State} {h h' : Heap} {t : Addr} {M w0 : Nat} {g g' : Nat → Bool} {cl : Cell} {v' : Int64} (A : Arr Z h t cl .long) (S : cl.slots.size = M) (H : ∀ w, w < M → ∃ v, cl.slots[w]? = some (.long v) ∧ Wd v g w) (hM : M ≤ 64) (h0 : w0 < M) (W : Wr h h' t (Int32.ofNat w0).toNatClampNeg (.long v')) (hv : Wd v' g' w0) (hg : ∀ w, w < M → w ≠ w0 → ∀ j, j < 64 → g' (64 * w + j) = g (64 * w + j)) : Lv Z h' t M g' := by
  rw [own_clamp (by omega)] at W
  refine ⟨_, A.same W, by rw [sz_set]; exact S, fun w hw => ?_⟩
  show ∃ v, (cl.slots.setIfInBounds w0 _)[w]? = _ ∧ _
  by_cases q : w0 = w
  · subst q; rw [Array.getElem?_setIfInBounds_self_of_lt (by omega)]; exact ⟨_, rfl, hv⟩
  · rw [Array.getElem?_setIfInBounds_ne q]
    obtain ⟨v, e, r⟩ := H w hw
    exact ⟨v, e, r.other (hg w hw (fun z => q z.symm))⟩
theorem Lv.keep {Z : State} {h h' : Heap} {t : Addr} {M : Nat} {g : Nat → Bool} {ws : List Addr} (P : Lv Z h t M g) (K : Keep h h' ws) (q : t ∉ ws) : Lv Z h' t M g := by
  obtain ⟨cl, A, r⟩ := P
  exact ⟨cl, ⟨K.2.1 t cl A.1 q, A.2⟩, r⟩
theorem Lv.alike {Z : State} {h : Heap} {t : Addr} {M : Nat} {g g' : Nat → Bool} (P : Lv Z h t M g) (q : ∀ y, y < 64 * M → g' y = g y) : Lv Z h t M g' := by
  obtain ⟨cl, A, S, H⟩ := P
  refine ⟨cl, A, S, fun w hw => ?_⟩
  obtain ⟨v, e, r⟩ := H w hw
  exact ⟨v, e, r.other fun j hj => q _ (by omega)⟩
/-- what firstAbsent answers -/
def FA (g : Nat → Bool) (N f r : Nat) : Prop := (64 * N ≤ f ∧ r = 64 * N) ∨ (f < 64 * N ∧ f ≤ r ∧ r ≤ 64 * N ∧ (r < 64 * N → g r = false) ∧ ∀ y, f ≤ y → y < r → g y = true)

def own_t (y : Int32) : Int32 := if (0 : Int32) < y then if (65536 : Int32) < y then if (256 : Int32) < ((y.toUInt32 >>> ((16 : Int32) &&& 31).toUInt32).toInt32) then if (16 : Int32) < ((((y.toUInt32 >>> ((16 : Int32) &&& 31).toUInt32).toInt32).toUInt32 >>> ((8 : Int32) &&& 31).toUInt32).toInt32) then if (4 : Int32) < ((((((y.toUInt32 >>> ((16 : Int32) &&& 31).toUInt32).toInt32).toUInt32 >>> ((8 : Int32) &&& 31).toUInt32).toInt32).toUInt32 >>> ((4 : Int32) &&& 31).toUInt32).toInt32) then ((((((1 : Int32) + (16 : Int32)) + (8 : Int32)) + (4 : Int32)) + (2 : Int32)) + ((((((((((y.toUInt32 >>> ((16 : Int32) &&& 31).toUInt32).toInt32).toUInt32 >>> ((8 : Int32) &&& 31).toUInt32).toInt32).toUInt32 >>> ((4 : Int32) &&& 31).toUInt32).toInt32).toUInt32 >>> ((2 : Int32) &&& 31).toUInt32).toInt32).toUInt32 >>> ((1 : Int32) &&& 31).toUInt32).toInt32)) else (((((1 : Int32) + (16 : Int32)) + (8 : Int32)) + (4 : Int32)) + ((((((((y.toUInt32 >>> ((16 : Int32) &&& 31).toUInt32).toInt32).toUInt32 >>> ((8 : Int32) &&& 31).toUInt32).toInt32).toUInt32 >>> ((4 : Int32) &&& 31).toUInt32).toInt32).toUInt32 >>> ((1 : Int32) &&& 31).toUInt32).toInt32)) else if (4 : Int32) < ((((y.toUInt32 >>> ((16 : Int32) &&& 31).toUInt32).toInt32).toUInt32 >>> ((8 : Int32) &&& 31).toUInt32).toInt32) then (((((1 : Int32) + (16 : Int32)) + (8 : Int32)) + (2 : Int32)) + ((((((((y.toUInt32 >>> ((16 : Int32) &&& 31).toUInt32).toInt32).toUInt32 >>> ((8 : Int32) &&& 31).toUInt32).toInt32).toUInt32 >>> ((2 : Int32) &&& 31).toUInt32).toInt32).toUInt32 >>> ((1 : Int32) &&& 31).toUInt32).toInt32)) else ((((1 : Int32) + (16 : Int32)) + (8 : Int32)) + ((((((y.toUInt32 >>> ((16 : Int32) &&& 31).toUInt32).toInt32).toUInt32 >>> ((8 : Int32) &&& 31).toUInt32).toInt32).toUInt32 >>> ((1 : Int32) &&& 31).toUInt32).toInt32)) else if (16 : Int32) < ((y.toUInt32 >>> ((16 : Int32) &&& 31).toUInt32).toInt32) then if (4 : Int32) < ((((y.toUInt32 >>> ((16 : Int32) &&& 31).toUInt32).toInt32).toUInt32 >>> ((4 : Int32) &&& 31).toUInt32).toInt32) then (((((1 : Int32) + (16 : Int32)) + (4 : Int32)) + (2 : Int32)) + ((((((((y.toUInt32 >>> ((16 : Int32) &&& 31).toUInt32).toInt32).toUInt32 >>> ((4 : Int32) &&& 31).toUInt32).toInt32).toUInt32 >>> ((2 : Int32) &&& 31).toUInt32).toInt32).toUInt32 >>> ((1 : Int32) &&& 31).toUInt32).toInt32)) else ((((1 : Int32) + (16 : Int32)) + (4 : Int32)) + ((((((y.toUInt32 >>> ((16 : Int32) &&& 31).toUInt32).toInt32).toUInt32 >>> ((4 : Int32) &&& 31).toUInt32).toInt32).toUInt32 >>> ((1 : Int32) &&& 31).toUInt32).toInt32)) else if (4 : Int32) < ((y.toUInt32 >>> ((16 : Int32) &&& 31).toUInt32).toInt32) then ((((1 : Int32) + (16 : Int32)) + (2 : Int32)) + ((((((y.toUInt32 >>> ((16 : Int32) &&& 31).toUInt32).toInt32).toUInt32 >>> ((2 : Int32) &&& 31).toUInt32).toInt32).toUInt32 >>> ((1 : Int32) &&& 31).toUInt32).toInt32)) else (((1 : Int32) + (16 : Int32)) + ((((y.toUInt32 >>> ((16 : Int32) &&& 31).toUInt32).toInt32).toUInt32 >>> ((1 : Int32) &&& 31).toUInt32).toInt32)) else if (256 : Int32) < y then if (16 : Int32) < ((y.toUInt32 >>> ((8 : Int32) &&& 31).toUInt32).toInt32) then if (4 : Int32) < ((((y.toUInt32 >>> ((8 : Int32) &&& 31).toUInt32).toInt32).toUInt32 >>> ((4 : Int32) &&& 31).toUInt32).toInt32) then (((((1 : Int32) + (8 : Int32)) + (4 : Int32)) + (2 : Int32)) + ((((((((y.toUInt32 >>> ((8 : Int32) &&& 31).toUInt32).toInt32).toUInt32 >>> ((4 : Int32) &&& 31).toUInt32).toInt32).toUInt32 >>> ((2 : Int32) &&& 31).toUInt32).toInt32).toUInt32 >>> ((1 : Int32) &&& 31).toUInt32).toInt32)) else ((((1 : Int32) + (8 : Int32)) + (4 : Int32)) + ((((((y.toUInt32 >>> ((8 : Int32) &&& 31).toUInt32).toInt32).toUInt32 >>> ((4 : Int32) &&& 31).toUInt32).toInt32).toUInt32 >>> ((1 : Int32) &&& 31).toUInt32).toInt32)) else if (4 : Int32) < ((y.toUInt32 >>> ((8 : Int32) &&& 31).toUInt32).toInt32) then ((((1 : Int32) + (8 : Int32)) + (2 : Int32)) + ((((((y.toUInt32 >>> ((8 : Int32) &&& 31).toUInt32).toInt32).toUInt32 >>> ((2 : Int32) &&& 31).toUInt32).toInt32).toUInt32 >>> ((1 : Int32) &&& 31).toUInt32).toInt32)) else (((1 : Int32) + (8 : Int32)) + ((((y.toUInt32 >>> ((8 : Int32) &&& 31).toUInt32).toInt32).toUInt32 >>> ((1 : Int32) &&& 31).toUInt32).toInt32)) else if (16 : Int32) < y then if (4 : Int32) < ((y.toUInt32 >>> ((4 : Int32) &&& 31).toUInt32).toInt32) then ((((1 : Int32) + (4 : Int32)) + (2 : Int32)) + ((((((y.toUInt32 >>> ((4 : Int32) &&& 31).toUInt32).toInt32).toUInt32 >>> ((2 : Int32) &&& 31).toUInt32).toInt32).toUInt32 >>> ((1 : Int32) &&& 31).toUInt32).toInt32)) else (((1 : Int32) + (4 : Int32)) + ((((y.toUInt32 >>> ((4 : Int32) &&& 31).toUInt32).toInt32).toUInt32 >>> ((1 : Int32) &&& 31).toUInt32).toInt32)) else if (4 : Int32) < y then (((1 : Int32) + (2 : Int32)) + ((((y.toUInt32 >>> ((2 : Int32) &&& 31).toUInt32).toInt32).toUInt32 >>> ((1 : Int32) &&& 31).toUInt32).toInt32)) else ((1 : Int32) + ((y.toUInt32 >>> ((1 : Int32) &&& 31).toUInt32).toInt32)) else (y &&& (32 : Int32))
theorem own_tK : ∀ K : Fin 32, own_t (Int32.ofNat (2 ^ K.1 - 1)) = Int32.ofNat K.1 := by decide +kernel
theorem d10_0 : decode jdk_33_method_48_code 0 = .ok (.iload_n 0, 1) := by decide +kernel
theorem d10_1 : decode jdk_33_method_48_code 1 = .ok (.iconst (-1), 1) := by decide +kernel
theorem d10_2 : decode jdk_33_method_48_code 2 = .ok (.ixor, 1) := by decide +kernel
theorem d10_3 : decode jdk_33_method_48_code 3 = .ok (.iload_n 0, 1) := by decide +kernel
theorem d10_4 : decode jdk_33_method_48_code 4 = .ok (.iconst 1, 1) := by decide +kernel
theorem d10_5 : decode jdk_33_method_48_code 5 = .ok (.isub, 1) := by decide +kernel
theorem d10_6 : decode jdk_33_method_48_code 6 = .ok (.iand, 1) := by decide +kernel
theorem d10_7 : decode jdk_33_method_48_code 7 = .ok (.istore_n 0, 1) := by decide +kernel
theorem d10_8 : decode jdk_33_method_48_code 8 = .ok (.iload_n 0, 1) := by decide +kernel
theorem d10_9 : decode jdk_33_method_48_code 9 = .ok (.ifCond .gt 8, 3) := by decide +kernel
theorem d10_12 : decode jdk_33_method_48_code 12 = .ok (.iload_n 0, 1) := by decide +kernel
theorem d10_13 : decode jdk_33_method_48_code 13 = .ok (.bipush 32, 2) := by decide +kernel
theorem d10_15 : decode jdk_33_method_48_code 15 = .ok (.iand, 1) := by decide +kernel
theorem d10_16 : decode jdk_33_method_48_code 16 = .ok (.ireturn, 1) := by decide +kernel
theorem d10_17 : decode jdk_33_method_48_code 17 = .ok (.iconst 1, 1) := by decide +kernel
theorem d10_18 : decode jdk_33_method_48_code 18 = .ok (.istore_n 1, 1) := by decide +kernel
theorem d10_19 : decode jdk_33_method_48_code 19 = .ok (.iload_n 0, 1) := by decide +kernel
theorem d10_20 : decode jdk_33_method_48_code 20 = .ok (.ldc_w 264, 3) := by decide +kernel
theorem d10_23 : decode jdk_33_method_48_code 23 = .ok (.if_icmp .le 11, 3) := by decide +kernel
theorem d10_26 : decode jdk_33_method_48_code 26 = .ok (.iinc 1 16, 3) := by decide +kernel
theorem d10_29 : decode jdk_33_method_48_code 29 = .ok (.iload_n 0, 1) := by decide +kernel
theorem d10_30 : decode jdk_33_method_48_code 30 = .ok (.bipush 16, 2) := by decide +kernel
theorem d10_32 : decode jdk_33_method_48_code 32 = .ok (.iushr, 1) := by decide +kernel
theorem d10_33 : decode jdk_33_method_48_code 33 = .ok (.istore_n 0, 1) := by decide +kernel
theorem d10_34 : decode jdk_33_method_48_code 34 = .ok (.iload_n 0, 1) := by decide +kernel
theorem d10_35 : decode jdk_33_method_48_code 35 = .ok (.sipush 256, 3) := by decide +kernel
theorem d10_38 : decode jdk_33_method_48_code 38 = .ok (.if_icmp .le 11, 3) := by decide +kernel
theorem d10_41 : decode jdk_33_method_48_code 41 = .ok (.iinc 1 8, 3) := by decide +kernel
theorem d10_44 : decode jdk_33_method_48_code 44 = .ok (.iload_n 0, 1) := by decide +kernel
theorem d10_45 : decode jdk_33_method_48_code 45 = .ok (.bipush 8, 2) := by decide +kernel
theorem d10_47 : decode jdk_33_method_48_code 47 = .ok (.iushr, 1) := by decide +kernel
theorem d10_48 : decode jdk_33_method_48_code 48 = .ok (.istore_n 0, 1) := by decide +kernel
theorem d10_49 : decode jdk_33_method_48_code 49 = .ok (.iload_n 0, 1) := by decide +kernel
theorem d10_50 : decode jdk_33_method_48_code 50 = .ok (.bipush 16, 2) := by decide +kernel
theorem d10_52 : decode jdk_33_method_48_code 52 = .ok (.if_icmp .le 10, 3) := by decide +kernel
theorem d10_55 : decode jdk_33_method_48_code 55 = .ok (.iinc 1 4, 3) := by decide +kernel
theorem d10_58 : decode jdk_33_method_48_code 58 = .ok (.iload_n 0, 1) := by decide +kernel
theorem d10_59 : decode jdk_33_method_48_code 59 = .ok (.iconst 4, 1) := by decide +kernel
theorem d10_60 : decode jdk_33_method_48_code 60 = .ok (.iushr, 1) := by decide +kernel
theorem d10_61 : decode jdk_33_method_48_code 61 = .ok (.istore_n 0, 1) := by decide +kernel
theorem d10_62 : decode jdk_33_method_48_code 62 = .ok (.iload_n 0, 1) := by decide +kernel
theorem d10_63 : decode jdk_33_method_48_code 63 = .ok (.iconst 4, 1) := by decide +kernel
theorem d10_64 : decode jdk_33_method_48_code 64 = .ok (.if_icmp .le 10, 3) := by decide +kernel
theorem d10_67 : decode jdk_33_method_48_code 67 = .ok (.iinc 1 2, 3) := by decide +kernel
theorem d10_70 : decode jdk_33_method_48_code 70 = .ok (.iload_n 0, 1) := by decide +kernel
theorem d10_71 : decode jdk_33_method_48_code 71 = .ok (.iconst 2, 1) := by decide +kernel
theorem d10_72 : decode jdk_33_method_48_code 72 = .ok (.iushr, 1) := by decide +kernel
theorem d10_73 : decode jdk_33_method_48_code 73 = .ok (.istore_n 0, 1) := by decide +kernel
theorem d10_74 : decode jdk_33_method_48_code 74 = .ok (.iload_n 1, 1) := by decide +kernel
theorem d10_75 : decode jdk_33_method_48_code 75 = .ok (.iload_n 0, 1) := by decide +kernel
theorem d10_76 : decode jdk_33_method_48_code 76 = .ok (.iconst 1, 1) := by decide +kernel
theorem d10_77 : decode jdk_33_method_48_code 77 = .ok (.iushr, 1) := by decide +kernel
theorem d10_78 : decode jdk_33_method_48_code 78 = .ok (.iadd, 1) := by decide +kernel
theorem d10_79 : decode jdk_33_method_48_code 79 = .ok (.ireturn, 1) := by decide +kernel
theorem pn10 : plainFor (⟨"java/lang/Integer", "numberOfTrailingZeros", "(I)I"⟩ : MethodName) = true := plainFor_of_name (by first | (simp [plainName, overriddenIn]; done) | decide +kernel)
theorem pd10 : parseMethodDescriptor "(I)I" = some ⟨[.int], some .int⟩ := by decide +kernel
theorem ef10 (m : MethodId) (x0 : Int32) : entryFrame m #[(.int x0)] 2 = mkF m 0 #[.val (.int x0), .unset] [] := by first | (simp [entryFrame, mkF, argsToLocals, Value.category]; done) | rfl
set_option maxRecDepth 65536 in
set_option maxHeartbeats 40000000 in
theorem rm10 (l : Launch) (Z : State) (a0 : Array Value) (hw : ∀ d ∈ tables_1, d.before a0 Z = true) (ws : List Jvm.Cond) (x0 : Int32) (h0 : Heap) : Con l Z (⟨"java/lang/Integer", "numberOfTrailingZeros", "(I)I"⟩ : MethodName) jdk_33_method_48_code 2 (some .int) ws ({ frames := 0, cells := 0, slots := 0, locals := 0 } : Room) #[(.int x0)] h0 (fun v h L => v = some (.int (own_t ((x0 ^^^ (-1 : Int32)) &&& (x0 - (1 : Int32))))) ∧ h = h0 ∧ L = []) := by
  refine Con.of pn10 fun p e s m below meth c s₁ hZ hx hby hml hown hret hlk hnm X0 e0 => ?_
  rw [ef10]
  show Go _ _ _ _ (s₁.setTop (mkF m 0 #[.val (.int x0), .unset] []))
  refine Go.step (fun _ k => XS.iloadN X0.here hx rfl (hb hby d10_0) rfl k) ?_
  show Go _ _ _ _ (s₁.setTop (mkF m 1 #[.val (.int x0), .unset] [(.int x0)]))
  refine Go.step (fun _ k => XS.iconst X0.here hx rfl (hb hby d10_1) k) ?_
  show Go _ _ _ _ (s₁.setTop (mkF m 2 #[.val (.int x0), .unset] [(.int (-1 : Int32)), (.int x0)]))
  refine Go.step (fun _ k => XS.ixor X0.here hx rfl (hb hby d10_2) rfl k) ?_
  show Go _ _ _ _ (s₁.setTop (mkF m 3 #[.val (.int x0), .unset] [(.int (x0 ^^^ (-1 : Int32)))]))
  refine Go.step (fun _ k => XS.iloadN X0.here hx rfl (hb hby d10_3) rfl k) ?_
  show Go _ _ _ _ (s₁.setTop (mkF m 4 #[.val (.int x0), .unset] [(.int x0), (.int (x0 ^^^ (-1 : Int32)))]))
  refine Go.step (fun _ k => XS.iconst X0.here hx rfl (hb hby d10_4) k) ?_
  show Go _ _ _ _ (s₁.setTop (mkF m 5 #[.val (.int x0), .unset] [(.int (1 : Int32)), (.int x0), (.int (x0 ^^^ (-1 : Int32)))]))
  refine Go.step (fun _ k => XS.isub X0.here hx rfl (hb hby d10_5) rfl k) ?_
  show Go _ _ _ _ (s₁.setTop (mkF m 6 #[.val (.int x0), .unset] [(.int (x0 - (1 : Int32))), (.int (x0 ^^^ (-1 : Int32)))]))
  refine Go.step (fun _ k => XS.iand X0.here hx rfl (hb hby d10_6) rfl k) ?_
  show Go _ _ _ _ (s₁.setTop (mkF m 7 #[.val (.int x0), .unset] [(.int ((x0 ^^^ (-1 : Int32)) &&& (x0 - (1 : Int32))))]))
  refine Go.step (fun _ k => XS.istoreN X0.here hx rfl (hb hby d10_7) rfl (l' := #[.val (.int ((x0 ^^^ (-1 : Int32)) &&& (x0 - (1 : Int32)))), .unset]) rfl k) ?_
  show Go _ _ _ _ (s₁.setTop (mkF m 8 #[.val (.int ((x0 ^^^ (-1 : Int32)) &&& (x0 - (1 : Int32)))), .unset] []))
  obtain ⟨y, hy⟩ : ∃ z, z = ((x0 ^^^ (-1 : Int32)) &&& (x0 - (1 : Int32))) := ⟨_, rfl⟩
  rw [← hy]
  show Go _ _ _ _ (s₁.setTop (mkF m 8 #[.val (.int y), .unset] []))
  refine Go.step (fun _ k => XS.iloadN X0.here hx rfl (hb hby d10_8) rfl k) ?_
  show Go _ _ _ _ (s₁.setTop (mkF m 9 #[.val (.int y), .unset] [(.int y)]))
  by_cases hc1 : (0 : Int32) < y
  · refine Go.step (fun _ k => XS.ifYes X0.here hx rfl (pc0 := 9) (pc' := 17) rfl (hb hby d10_9) rfl ((if0 _ _).trans (tlt hc1).2.2.1) (by decide) (by decide) k) ?_
    show Go _ _ _ _ (s₁.setTop (mkF m 17 #[.val (.int y), .unset] []))
    refine Go.step (fun _ k => XS.iconst X0.here hx rfl (hb hby d10_17) k) ?_
    show Go _ _ _ _ (s₁.setTop (mkF m 18 #[.val (.int y), .unset] [(.int (1 : Int32))]))
    refine Go.step (fun _ k => XS.istoreN X0.here hx rfl (hb hby d10_18) rfl (l' := #[.val (.int y), .val (.int (1 : Int32))]) rfl k) ?_
    show Go _ _ _ _ (s₁.setTop (mkF m 19 #[.val (.int y), .val (.int (1 : Int32))] []))
    refine Go.step (fun _ k => XS.iloadN X0.here hx rfl (hb hby d10_19) rfl k) ?_
    show Go _ _ _ _ (s₁.setTop (mkF m 20 #[.val (.int y), .val (.int (1 : Int32))] [(.int y)]))
    refine Go.step (X0.ldcwInt hx hown (mvT hZ (hw _ (List.mem_of_getElem? (i := 55) rfl))) (g := (mkF m 20 #[.val (.int y), .val (.int (1 : Int32))] [(.int y)])) rfl (hb hby d10_20)) ?_
    show Go _ _ _ _ (s₁.setTop (mkF m 23 #[.val (.int y), .val (.int (1 : Int32))] [(.int (65536 : Int32)), (.int y)]))
    by_cases hc2 : (65536 : Int32) < y
    · refine Go.step (fun _ k => XS.icmpNo X0.here hx rfl (hb hby d10_23) rfl (tlt hc2).2.2.2 k) ?_
      show Go _ _ _ _ (s₁.setTop (mkF m 26 #[.val (.int y), .val (.int (1 : Int32))] []))
      refine Go.step (fun _ k => XS.iinc X0.here hx rfl (hb hby d10_26) rfl (l' := #[.val (.int y), .val (.int ((1 : Int32) + (16 : Int32)))]) rfl k) ?_
      show Go _ _ _ _ (s₁.setTop (mkF m 29 #[.val (.int y), .val (.int ((1 : Int32) + (16 : Int32)))] []))
      refine Go.step (fun _ k => XS.iloadN X0.here hx rfl (hb hby d10_29) rfl k) ?_
      show Go _ _ _ _ (s₁.setTop (mkF m 30 #[.val (.int y), .val (.int ((1 : Int32) + (16 : Int32)))] [(.int y)]))
      refine Go.step (fun _ k => XS.bipush X0.here hx rfl (hb hby d10_30) k) ?_
      show Go _ _ _ _ (s₁.setTop (mkF m 32 #[.val (.int y), .val (.int ((1 : Int32) + (16 : Int32)))] [(.int (16 : Int32)), (.int y)]))
      refine Go.step (fun _ k => XS.iushr X0.here hx rfl (hb hby d10_32) rfl k) ?_
      show Go _ _ _ _ (s₁.setTop (mkF m 33 #[.val (.int y), .val (.int ((1 : Int32) + (16 : Int32)))] [(.int ((y.toUInt32 >>> ((16 : Int32) &&& 31).toUInt32).toInt32))]))
      refine Go.step (fun _ k => XS.istoreN X0.here hx rfl (hb hby d10_33) rfl (l' := #[.val (.int ((y.toUInt32 >>> ((16 : Int32) &&& 31).toUInt32).toInt32)), .val (.int ((1 : Int32) + (16 : Int32)))]) rfl k) ?_
      show Go _ _ _ _ (s₁.setTop (mkF m 34 #[.val (.int ((y.toUInt32 >>> ((16 : Int32) &&& 31).toUInt32).toInt32)), .val (.int ((1 : Int32) + (16 : Int32)))] []))
      refine Go.step (fun _ k => XS.iloadN X0.here hx rfl (hb hby d10_34) rfl k) ?_
      show Go _ _ _ _ (s₁.setTop (mkF m 35 #[.val (.int ((y.toUInt32 >>> ((16 : Int32) &&& 31).toUInt32).toInt32)), .val (.int ((1 : Int32) + (16 : Int32)))] [(.int ((y.toUInt32 >>> ((16 : Int32) &&& 31).toUInt32).toInt32))]))
      refine Go.step (fun _ k => XS.sipush X0.here hx rfl (hb hby d10_35) k) ?_
      show Go _ _ _ _ (s₁.setTop (mkF m 38 #[.val (.int ((y.toUInt32 >>> ((16 : Int32) &&& 31).toUInt32).toInt32)), .val (.int ((1 : Int32) + (16 : Int32)))] [(.int (256 : Int32)), (.int ((y.toUInt32 >>> ((16 : Int32) &&& 31).toUInt32).toInt32))]))
      by_cases hc3 : (256 : Int32) < ((y.toUInt32 >>> ((16 : Int32) &&& 31).toUInt32).toInt32)
      · refine Go.step (fun _ k => XS.icmpNo X0.here hx rfl (hb hby d10_38) rfl (tlt hc3).2.2.2 k) ?_
        show Go _ _ _ _ (s₁.setTop (mkF m 41 #[.val (.int ((y.toUInt32 >>> ((16 : Int32) &&& 31).toUInt32).toInt32)), .val (.int ((1 : Int32) + (16 : Int32)))] []))
        refine Go.step (fun _ k => XS.iinc X0.here hx rfl (hb hby d10_41) rfl (l' := #[.val (.int ((y.toUInt32 >>> ((16 : Int32) &&& 31).toUInt32).toInt32)), .val (.int (((1 : Int32) + (16 : Int32)) + (8 : Int32)))]) rfl k) ?_
        show Go _ _ _ _ (s₁.setTop (mkF m 44 #[.val (.int ((y.toUInt32 >>> ((16 : Int32) &&& 31).toUInt32).toInt32)), .val (.int (((1 : Int32) + (16 : Int32)) + (8 : Int32)))] []))
        refine Go.step (fun _ k => XS.iloadN X0.here hx rfl (hb hby d10_44) rfl k) ?_
        show Go _ _ _ _ (s₁.setTop (mkF m 45 #[.val (.int ((y.toUInt32 >>> ((16 : Int32) &&& 31).toUInt32).toInt32)), .val (.int (((1 : Int32) + (16 : Int32)) + (8 : Int32)))] [(.int ((y.toUInt32 >>> ((16 : Int32) &&& 31).toUInt32).toInt32))]))
        refine Go.step (fun _ k => XS.bipush X0.here hx rfl (hb hby d10_45) k) ?_
        show Go _ _ _ _ (s₁.setTop (mkF m 47 #[.val (.int ((y.toUInt32 >>> ((16 : Int32) &&& 31).toUInt32).toInt32)), .val (.int (((1 : Int32) + (16 : Int32)) + (8 : Int32)))] [(.int (8 : Int32)), (.int ((y.toUInt32 >>> ((16 : Int32) &&& 31).toUInt32).toInt32))]))
        refine Go.step (fun _ k => XS.iushr X0.here hx rfl (hb hby d10_47) rfl k) ?_
        show Go _ _ _ _ (s₁.setTop (mkF m 48 #[.val (.int ((y.toUInt32 >>> ((16 : Int32) &&& 31).toUInt32).toInt32)), .val (.int (((1 : Int32) + (16 : Int32)) + (8 : Int32)))] [(.int ((((y.toUInt32 >>> ((16 : Int32) &&& 31).toUInt32).toInt32).toUInt32 >>> ((8 : Int32) &&& 31).toUInt32).toInt32))]))
        refine Go.step (fun _ k => XS.istoreN X0.here hx rfl (hb hby d10_48) rfl (l' := #[.val (.int ((((y.toUInt32 >>> ((16 : Int32) &&& 31).toUInt32).toInt32).toUInt32 >>> ((8 : Int32) &&& 31).toUInt32).toInt32)), .val (.int (((1 : Int32) + (16 : Int32)) + (8 : Int32)))]) rfl k) ?_
        show Go _ _ _ _ (s₁.setTop (mkF m 49 #[.val (.int ((((y.toUInt32 >>> ((16 : Int32) &&& 31).toUInt32).toInt32).toUInt32 >>> ((8 : Int32) &&& 31).toUInt32).toInt32)), .val (.int (((1 : Int32) + (16 : Int32)) + (8 : Int32)))] []))
        refine Go.step (fun _ k => XS.iloadN X0.here hx rfl (hb hby d10_49) rfl k) ?_
        show Go _ _ _ _ (s₁.setTop (mkF m 50 #[.val (.int ((((y.toUInt32 >>> ((16 : Int32) &&& 31).toUInt32).toInt32).toUInt32 >>> ((8 : Int32) &&& 31).toUInt32).toInt32)), .val (.int (((1 : Int32) + (16 : Int32)) + (8 : Int32)))] [(.int ((((y.toUInt32 >>> ((16 : Int32) &&& 31).toUInt32).toInt32).toUInt32 >>> ((8 : Int32) &&& 31).toUInt32).toInt32))]))
        refine Go.step (fun _ k => XS.bipush X0.here hx rfl (hb hby d10_50) k) ?_
        show Go _ _ _ _ (s₁.setTop (mkF m 52 #[.val (.int ((((y.toUInt32 >>> ((16 : Int32) &&& 31).toUInt32).toInt32).toUInt32 >>> ((8 : Int32) &&& 31).toUInt32).toInt32)), .val (.int (((1 : Int32) + (16 : Int32)) + (8 : Int32)))] [(.int (16 : Int32)), (.int ((((y.toUInt32 >>> ((16 : Int32) &&& 31).toUInt32).toInt32).toUInt32 >>> ((8 : Int32) &&& 31).toUInt32).toInt32))]))
        by_cases hc4 : (16 : Int32) < ((((y.toUInt32 >>> ((16 : Int32) &&& 31).toUInt32).toInt32).toUInt32 >>> ((8 : Int32) &&& 31).toUInt32).toInt32)
        · refine Go.step (fun _ k => XS.icmpNo X0.here hx rfl (hb hby d10_52) rfl (tlt hc4).2.2.2 k) ?_
          show Go _ _ _ _ (s₁.setTop (mkF m 55 #[.val (.int ((((y.toUInt32 >>> ((16 : Int32) &&& 31).toUInt32).toInt32).toUInt32 >>> ((8 : Int32) &&& 31).toUInt32).toInt32)), .val (.int (((1 : Int32) + (16 : Int32)) + (8 : Int32)))] []))
          refine Go.step (fun _ k => XS.iinc X0.here hx rfl (hb hby d10_55) rfl (l' := #[.val (.int ((((y.toUInt32 >>> ((16 : Int32) &&& 31).toUInt32).toInt32).toUInt32 >>> ((8 : Int32) &&& 31).toUInt32).toInt32)), .val (.int ((((1 : Int32) + (16 : Int32)) + (8 : Int32)) + (4 : Int32)))]) rfl k) ?_
          show Go _ _ _ _ (s₁.setTop (mkF m 58 #[.val (.int ((((y.toUInt32 >>> ((16 : Int32) &&& 31).toUInt32).toInt32).toUInt32 >>> ((8 : Int32) &&& 31).toUInt32).toInt32)), .val (.int ((((1 : Int32) + (16 : Int32)) + (8 : Int32)) + (4 : Int32)))] []))
          refine Go.step (fun _ k => XS.iloadN X0.here hx rfl (hb hby d10_58) rfl k) ?_
          show Go _ _ _ _ (s₁.setTop (mkF m 59 #[.val (.int ((((y.toUInt32 >>> ((16 : Int32) &&& 31).toUInt32).toInt32).toUInt32 >>> ((8 : Int32) &&& 31).toUInt32).toInt32)), .val (.int ((((1 : Int32) + (16 : Int32)) + (8 : Int32)) + (4 : Int32)))] [(.int ((((y.toUInt32 >>> ((16 : Int32) &&& 31).toUInt32).toInt32).toUInt32 >>> ((8 : Int32) &&& 31).toUInt32).toInt32))]))
          refine Go.step (fun _ k => XS.iconst X0.here hx rfl (hb hby d10_59) k) ?_
          show Go _ _ _ _ (s₁.setTop (mkF m 60 #[.val (.int ((((y.toUInt32 >>> ((16 : Int32) &&& 31).toUInt32).toInt32).toUInt32 >>> ((8 : Int32) &&& 31).toUInt32).toInt32)), .val (.int ((((1 : Int32) + (16 : Int32)) + (8 : Int32)) + (4 : Int32)))] [(.int (4 : Int32)), (.int ((((y.toUInt32 >>> ((16 : Int32) &&& 31).toUInt32).toInt32).toUInt32 >>> ((8 : Int32) &&& 31).toUInt32).toInt32))]))
          refine Go.step (fun _ k => XS.iushr X0.here hx rfl (hb hby d10_60) rfl k) ?_
          show Go _ _ _ _ (s₁.setTop (mkF m 61 #[.val (.int ((((y.toUInt32 >>> ((16 : Int32) &&& 31).toUInt32).toInt32).toUInt32 >>> ((8 : Int32) &&& 31).toUInt32).toInt32)), .val (.int ((((1 : Int32) + (16 : Int32)) + (8 : Int32)) + (4 : Int32)))] [(.int ((((((y.toUInt32 >>> ((16 : Int32) &&& 31).toUInt32).toInt32).toUInt32 >>> ((8 : Int32) &&& 31).toUInt32).toInt32).toUInt32 >>> ((4 : Int32) &&& 31).toUInt32).toInt32))]))
          refine Go.step (fun _ k => XS.istoreN X0.here hx rfl (hb hby d10_61) rfl (l' := #[.val (.int ((((((y.toUInt32 >>> ((16 : Int32) &&& 31).toUInt32).toInt32).toUInt32 >>> ((8 : Int32) &&& 31).toUInt32).toInt32).toUInt32 >>> ((4 : Int32) &&& 31).toUInt32).toInt32)), .val (.int ((((1 : Int32) + (16 : Int32)) + (8 : Int32)) + (4 : Int32)))]) rfl k) ?_
          show Go _ _ _ _ (s₁.setTop (mkF m 62 #[.val (.int ((((((y.toUInt32 >>> ((16 : Int32) &&& 31).toUInt32).toInt32).toUInt32 >>> ((8 : Int32) &&& 31).toUInt32).toInt32).toUInt32 >>> ((4 : Int32) &&& 31).toUInt32).toInt32)), .val (.int ((((1 : Int32) + (16 : Int32)) + (8 : Int32)) + (4 : Int32)))] []))
          refine Go.step (fun _ k => XS.iloadN X0.here hx rfl (hb hby d10_62) rfl k) ?_
          show Go _ _ _ _ (s₁.setTop (mkF m 63 #[.val (.int ((((((y.toUInt32 >>> ((16 : Int32) &&& 31).toUInt32).toInt32).toUInt32 >>> ((8 : Int32) &&& 31).toUInt32).toInt32).toUInt32 >>> ((4 : Int32) &&& 31).toUInt32).toInt32)), .val (.int ((((1 : Int32) + (16 : Int32)) + (8 : Int32)) + (4 : Int32)))] [(.int ((((((y.toUInt32 >>> ((16 : Int32) &&& 31).toUInt32).toInt32).toUInt32 >>> ((8 : Int32) &&& 31).toUInt32).toInt32).toUInt32 >>> ((4 : Int32) &&& 31).toUInt32).toInt32))]))
          refine Go.step (fun _ k => XS.iconst X0.here hx rfl (hb hby d10_63) k) ?_
          show Go _ _ _ _ (s₁.setTop (mkF m 64 #[.val (.int ((((((y.toUInt32 >>> ((16 : Int32) &&& 31).toUInt32).toInt32).toUInt32 >>> ((8 : Int32) &&& 31).toUInt32).toInt32).toUInt32 >>> ((4 : Int32) &&& 31).toUInt32).toInt32)), .val (.int ((((1 : Int32) + (16 : Int32)) + (8 : Int32)) + (4 : Int32)))] [(.int (4 : Int32)), (.int ((((((y.toUInt32 >>> ((16 : Int32) &&& 31).toUInt32).toInt32).toUInt32 >>> ((8 : Int32) &&& 31).toUInt32).toInt32).toUInt32 >>> ((4 : Int32) &&& 31).toUInt32).toInt32))]))
          by_cases hc5 : (4 : Int32) < ((((((y.toUInt32 >>> ((16 : Int32) &&& 31).toUInt32).toInt32).toUInt32 >>> ((8 : Int32) &&& 31).toUInt32).toInt32).toUInt32 >>> ((4 : Int32) &&& 31).toUInt32).toInt32)
          · refine Go.step (fun _ k => XS.icmpNo X0.here hx rfl (hb hby d10_64) rfl (tlt hc5).2.2.2 k) ?_
            show Go _ _ _ _ (s₁.setTop (mkF m 67 #[.val (.int ((((((y.toUInt32 >>> ((16 : Int32) &&& 31).toUInt32).toInt32).toUInt32 >>> ((8 : Int32) &&& 31).toUInt32).toInt32).toUInt32 >>> ((4 : Int32) &&& 31).toUInt32).toInt32)), .val (.int ((((1 : Int32) + (16 : Int32)) + (8 : Int32)) + (4 : Int32)))] []))
            refine Go.step (fun _ k => XS.iinc X0.here hx rfl (hb hby d10_67) rfl (l' := #[.val (.int ((((((y.toUInt32 >>> ((16 : Int32) &&& 31).toUInt32).toInt32).toUInt32 >>> ((8 : Int32) &&& 31).toUInt32).toInt32).toUInt32 >>> ((4 : Int32) &&& 31).toUInt32).toInt32)), .val (.int (((((1 : Int32) + (16 : Int32)) + (8 : Int32)) + (4 : Int32)) + (2 : Int32)))]) rfl k) ?_
            show Go _ _ _ _ (s₁.setTop (mkF m 70 #[.val (.int ((((((y.toUInt32 >>> ((16 : Int32) &&& 31).toUInt32).toInt32).toUInt32 >>> ((8 : Int32) &&& 31).toUInt32).toInt32).toUInt32 >>> ((4 : Int32) &&& 31).toUInt32).toInt32)), .val (.int (((((1 : Int32) + (16 : Int32)) + (8 : Int32)) + (4 : Int32)) + (2 : Int32)))] []))
            refine Go.step (fun _ k => XS.iloadN X0.here hx rfl (hb hby d10_70) rfl k) ?_
            show Go _ _ _ _ (s₁.setTop (mkF m 71 #[.val (.int ((((((y.toUInt32 >>> ((16 : Int32) &&& 31).toUInt32).toInt32).toUInt32 >>> ((8 : Int32) &&& 31).toUInt32).toInt32).toUInt32 >>> ((4 : Int32) &&& 31).toUInt32).toInt32)), .val (.int (((((1 : Int32) + (16 : Int32)) + (8 : Int32)) + (4 : Int32)) + (2 : Int32)))] [(.int ((((((y.toUInt32 >>> ((16 : Int32) &&& 31).toUInt32).toInt32).toUInt32 >>> ((8 : Int32) &&& 31).toUInt32).toInt32).toUInt32 >>> ((4 : Int32) &&& 31).toUInt32).toInt32))]))
            refine Go.step (fun _ k => XS.iconst X0.here hx rfl (hb hby d10_71) k) ?_
            show Go _ _ _ _ (s₁.setTop (mkF m 72 #[.val (.int ((((((y.toUInt32 >>> ((16 : Int32) &&& 31).toUInt32).toInt32).toUInt32 >>> ((8 : Int32) &&& 31).toUInt32).toInt32).toUInt32 >>> ((4 : Int32) &&& 31).toUInt32).toInt32)), .val (.int (((((1 : Int32) + (16 : Int32)) + (8 : Int32)) + (4 : Int32)) + (2 : Int32)))] [(.int (2 : Int32)), (.int ((((((y.toUInt32 >>> ((16 : Int32) &&& 31).toUInt32).toInt32).toUInt32 >>> ((8 : Int32) &&& 31).toUInt32).toInt32).toUInt32 >>> ((4 : Int32) &&& 31).toUInt32).toInt32))]))
            refine Go.step (fun _ k => XS.iushr X0.here hx rfl (hb hby d10_72) rfl k) ?_
            show Go _ _ _ _ (s₁.setTop (mkF m 73 #[.val (.int ((((((y.toUInt32 >>> ((16 : Int32) &&& 31).toUInt32).toInt32).toUInt32 >>> ((8 : Int32) &&& 31).toUInt32).toInt32).toUInt32 >>> ((4 : Int32) &&& 31).toUInt32).toInt32)), .val (.int (((((1 : Int32) + (16 : Int32)) + (8 : Int32)) + (4 : Int32)) + (2 : Int32)))] [(.int ((((((((y.toUInt32 >>> ((16 : Int32) &&& 31).toUInt32).toInt32).toUInt32 >>> ((8 : Int32) &&& 31).toUInt32).toInt32).toUInt32 >>> ((4 : Int32) &&& 31).toUInt32).toInt32).toUInt32 >>> ((2 : Int32) &&& 31).toUInt32).toInt32))]))
            refine Go.step (fun _ k => XS.istoreN X0.here hx rfl (hb hby d10_73) rfl (l' := #[.val (.int ((((((((y.toUInt32 >>> ((16 : Int32) &&& 31).toUInt32).toInt32).toUInt32 >>> ((8 : Int32) &&& 31).toUInt32).toInt32).toUInt32 >>> ((4 : Int32) &&& 31).toUInt32).toInt32).toUInt32 >>> ((2 : Int32) &&& 31).toUInt32).toInt32)), .val (.int (((((1 : Int32) + (16 : Int32)) + (8 : Int32)) + (4 : Int32)) + (2 : Int32)))]) rfl k) ?_
            show Go _ _ _ _ (s₁.setTop (mkF m 74 #[.val (.int ((((((((y.toUInt32 >>> ((16 : Int32) &&& 31).toUInt32).toInt32).toUInt32 >>> ((8 : Int32) &&& 31).toUInt32).toInt32).toUInt32 >>> ((4 : Int32) &&& 31).toUInt32).toInt32).toUInt32 >>> ((2 : Int32) &&& 31).toUInt32).toInt32)), .val (.int (((((1 : Int32) + (16 : Int32)) + (8 : Int32)) + (4 : Int32)) + (2 : Int32)))] []))
            refine Go.step (fun _ k => XS.iloadN X0.here hx rfl (hb hby d10_74) rfl k) ?_
            show Go _ _ _ _ (s₁.setTop (mkF m 75 #[.val (.int ((((((((y.toUInt32 >>> ((16 : Int32) &&& 31).toUInt32).toInt32).toUInt32 >>> ((8 : Int32) &&& 31).toUInt32).toInt32).toUInt32 >>> ((4 : Int32) &&& 31).toUInt32).toInt32).toUInt32 >>> ((2 : Int32) &&& 31).toUInt32).toInt32)), .val (.int (((((1 : Int32) + (16 : Int32)) + (8 : Int32)) + (4 : Int32)) + (2 : Int32)))] [(.int (((((1 : Int32) + (16 : Int32)) + (8 : Int32)) + (4 : Int32)) + (2 : Int32)))]))
            refine Go.step (fun _ k => XS.iloadN X0.here hx rfl (hb hby d10_75) rfl k) ?_
            show Go _ _ _ _ (s₁.setTop (mkF m 76 #[.val (.int ((((((((y.toUInt32 >>> ((16 : Int32) &&& 31).toUInt32).toInt32).toUInt32 >>> ((8 : Int32) &&& 31).toUInt32).toInt32).toUInt32 >>> ((4 : Int32) &&& 31).toUInt32).toInt32).toUInt32 >>> ((2 : Int32) &&& 31).toUInt32).toInt32)), .val (.int (((((1 : Int32) + (16 : Int32)) + (8 : Int32)) + (4 : Int32)) + (2 : Int32)))] [(.int ((((((((y.toUInt32 >>> ((16 : Int32) &&& 31).toUInt32).toInt32).toUInt32 >>> ((8 : Int32) &&& 31).toUInt32).toInt32).toUInt32 >>> ((4 : Int32) &&& 31).toUInt32).toInt32).toUInt32 >>> ((2 : Int32) &&& 31).toUInt32).toInt32)), (.int (((((1 : Int32) + (16 : Int32)) + (8 : Int32)) + (4 : Int32)) + (2 : Int32)))]))
            refine Go.step (fun _ k => XS.iconst X0.here hx rfl (hb hby d10_76) k) ?_
            show Go _ _ _ _ (s₁.setTop (mkF m 77 #[.val (.int ((((((((y.toUInt32 >>> ((16 : Int32) &&& 31).toUInt32).toInt32).toUInt32 >>> ((8 : Int32) &&& 31).toUInt32).toInt32).toUInt32 >>> ((4 : Int32) &&& 31).toUInt32).toInt32).toUInt32 >>> ((2 : Int32) &&& 31).toUInt32).toInt32)), .val (.int (((((1 : Int32) + (16 : Int32)) + (8 : Int32)) + (4 : Int32)) + (2 : Int32)))] [(.int (1 : Int32)), (.int ((((((((y.toUInt32 >>> ((16 : Int32) &&& 31).toUInt32).toInt32).toUInt32 >>> ((8 : Int32) &&& 31).toUInt32).toInt32).toUInt32 >>> ((4 : Int32) &&& 31).toUInt32).toInt32).toUInt32 >>> ((2 : Int32) &&& 31).toUInt32).toInt32)), (.int (((((1 : Int32) + (16 : Int32)) + (8 : Int32)) + (4 : Int32)) + (2 : Int32)))]))
            refine Go.step (fun _ k => XS.iushr X0.here hx rfl (hb hby d10_77) rfl k) ?_
            show Go _ _ _ _ (s₁.setTop (mkF m 78 #[.val (.int ((((((((y.toUInt32 >>> ((16 : Int32) &&& 31).toUInt32).toInt32).toUInt32 >>> ((8 : Int32) &&& 31).toUInt32).toInt32).toUInt32 >>> ((4 : Int32) &&& 31).toUInt32).toInt32).toUInt32 >>> ((2 : Int32) &&& 31).toUInt32).toInt32)), .val (.int (((((1 : Int32) + (16 : Int32)) + (8 : Int32)) + (4 : Int32)) + (2 : Int32)))] [(.int ((((((((((y.toUInt32 >>> ((16 : Int32) &&& 31).toUInt32).toInt32).toUInt32 >>> ((8 : Int32) &&& 31).toUInt32).toInt32).toUInt32 >>> ((4 : Int32) &&& 31).toUInt32).toInt32).toUInt32 >>> ((2 : Int32) &&& 31).toUInt32).toInt32).toUInt32 >>> ((1 : Int32) &&& 31).toUInt32).toInt32)), (.int (((((1 : Int32) + (16 : Int32)) + (8 : Int32)) + (4 : Int32)) + (2 : Int32)))]))
            refine Go.step (fun _ k => XS.iadd X0.here hx rfl (hb hby d10_78) rfl k) ?_
            show Go _ _ _ _ (s₁.setTop (mkF m 79 #[.val (.int ((((((((y.toUInt32 >>> ((16 : Int32) &&& 31).toUInt32).toInt32).toUInt32 >>> ((8 : Int32) &&& 31).toUInt32).toInt32).toUInt32 >>> ((4 : Int32) &&& 31).toUInt32).toInt32).toUInt32 >>> ((2 : Int32) &&& 31).toUInt32).toInt32)), .val (.int (((((1 : Int32) + (16 : Int32)) + (8 : Int32)) + (4 : Int32)) + (2 : Int32)))] [(.int ((((((1 : Int32) + (16 : Int32)) + (8 : Int32)) + (4 : Int32)) + (2 : Int32)) + ((((((((((y.toUInt32 >>> ((16 : Int32) &&& 31).toUInt32).toInt32).toUInt32 >>> ((8 : Int32) &&& 31).toUInt32).toInt32).toUInt32 >>> ((4 : Int32) &&& 31).toUInt32).toInt32).toUInt32 >>> ((2 : Int32) &&& 31).toUInt32).toInt32).toUInt32 >>> ((1 : Int32) &&& 31).toUInt32).toInt32)))]))
            exact leafI X0 hx hret hlk (hb hby d10_79) ⟨by rw [own_t, if_pos hc1, if_pos hc2, if_pos hc3, if_pos hc4, if_pos hc5], e0, rfl⟩ (by decide) (by decide)
          · refine Go.step (fun _ k => XS.icmpYes X0.here hx rfl (pc0 := 64) (pc' := 74) rfl (hb hby d10_64) rfl (flt hc5).2.2.2 (by decide) (by decide) k) ?_
            show Go _ _ _ _ (s₁.setTop (mkF m 74 #[.val (.int ((((((y.toUInt32 >>> ((16 : Int32) &&& 31).toUInt32).toInt32).toUInt32 >>> ((8 : Int32) &&& 31).toUInt32).toInt32).toUInt32 >>> ((4 : Int32) &&& 31).toUInt32).toInt32)), .val (.int ((((1 : Int32) + (16 : Int32)) + (8 : Int32)) + (4 : Int32)))] []))
            refine Go.step (fun _ k => XS.iloadN X0.here hx rfl (hb hby d10_74) rfl k) ?_
            show Go _ _ _ _ (s₁.setTop (mkF m 75 #[.val (.int ((((((y.toUInt32 >>> ((16 : Int32) &&& 31).toUInt32).toInt32).toUInt32 >>> ((8 : Int32) &&& 31).toUInt32).toInt32).toUInt32 >>> ((4 : Int32) &&& 31).toUInt32).toInt32)), .val (.int ((((1 : Int32) + (16 : Int32)) + (8 : Int32)) + (4 : Int32)))] [(.int ((((1 : Int32) + (16 : Int32)) + (8 : Int32)) + (4 : Int32)))]))
            refine Go.step (fun _ k => XS.iloadN X0.here hx rfl (hb hby d10_75) rfl k) ?_
            show Go _ _ _ _ (s₁.setTop (mkF m 76 #[.val (.int ((((((y.toUInt32 >>> ((16 : Int32) &&& 31).toUInt32).toInt32).toUInt32 >>> ((8 : Int32) &&& 31).toUInt32).toInt32).toUInt32 >>> ((4 : Int32) &&& 31).toUInt32).toInt32)), .val (.int ((((1 : Int32) + (16 : Int32)) + (8 : Int32)) + (4 : Int32)))] [(.int ((((((y.toUInt32 >>> ((16 : Int32) &&& 31).toUInt32).toInt32).toUInt32 >>> ((8 : Int32) &&& 31).toUInt32).toInt32).toUInt32 >>> ((4 : Int32) &&& 31).toUInt32).toInt32)), (.int ((((1 : Int32) + (16 : Int32)) + (8 : Int32)) + (4 : Int32)))]))
            refine Go.step (fun _ k => XS.iconst X0.here hx rfl (hb hby d10_76) k) ?_
            show Go _ _ _ _ (s₁.setTop (mkF m 77 #[.val (.int ((((((y.toUInt32 >>> ((16 : Int32) &&& 31).toUInt32).toInt32).toUInt32 >>> ((8 : Int32) &&& 31).toUInt32).toInt32).toUInt32 >>> ((4 : Int32) &&& 31).toUInt32).toInt32)), .val (.int ((((1 : Int32) + (16 : Int32)) + (8 : Int32)) + (4 : Int32)))] [(.int (1 : Int32)), (.int ((((((y.toUInt32 >>> ((16 : Int32) &&& 31).toUInt32).toInt32).toUInt32 >>> ((8 : Int32) &&& 31).toUInt32).toInt32).toUInt32 >>> ((4 : Int32) &&& 31).toUInt32).toInt32)), (.int ((((1 : Int32) + (16 : Int32)) + (8 : Int32)) + (4 : Int32)))]))
            refine Go.step (fun _ k => XS.iushr X0.here hx rfl (hb hby d10_77) rfl k) ?_
            show Go _ _ _ _ (s₁.setTop (mkF m 78 #[.val (.int ((((((y.toUInt32 >>> ((16 : Int32) &&& 31).toUInt32).toInt32).toUInt32 >>> ((8 : Int32) &&& 31).toUInt32).toInt32).toUInt32 >>> ((4 : Int32) &&& 31).toUInt32).toInt32)), .val (.int ((((1 : Int32) + (16 : Int32)) + (8 : Int32)) + (4 : Int32)))] [(.int ((((((((y.toUInt32 >>> ((16 : Int32) &&& 31).toUInt32).toInt32).toUInt32 >>> ((8 : Int32) &&& 31).toUInt32).toInt32).toUInt32 >>> ((4 : Int32) &&& 31).toUInt32).toInt32).toUInt32 >>> ((1 : Int32) &&& 31).toUInt32).toInt32)), (.int ((((1 : Int32) + (16 : Int32)) + (8 : Int32)) + (4 : Int32)))]))
            refine Go.step (fun _ k => XS.iadd X0.here hx rfl (hb hby d10_78) rfl k) ?_
            show Go _ _ _ _ (s₁.setTop (mkF m 79 #[.val (.int ((((((y.toUInt32 >>> ((16 : Int32) &&& 31).toUInt32).toInt32).toUInt32 >>> ((8 : Int32) &&& 31).toUInt32).toInt32).toUInt32 >>> ((4 : Int32) &&& 31).toUInt32).toInt32)), .val (.int ((((1 : Int32) + (16 : Int32)) + (8 : Int32)) + (4 : Int32)))] [(.int (((((1 : Int32) + (16 : Int32)) + (8 : Int32)) + (4 : Int32)) + ((((((((y.toUInt32 >>> ((16 : Int32) &&& 31).toUInt32).toInt32).toUInt32 >>> ((8 : Int32) &&& 31).toUInt32).toInt32).toUInt32 >>> ((4 : Int32) &&& 31).toUInt32).toInt32).toUInt32 >>> ((1 : Int32) &&& 31).toUInt32).toInt32)))]))
            exact leafI X0 hx hret hlk (hb hby d10_79) ⟨by rw [own_t, if_pos hc1, if_pos hc2, if_pos hc3, if_pos hc4, if_neg hc5], e0, rfl⟩ (by decide) (by decide)
        · refine Go.step (fun _ k => XS.icmpYes X0.here hx rfl (pc0 := 52) (pc' := 62) rfl (hb hby d10_52) rfl (flt hc4).2.2.2 (by decide) (by decide) k) ?_
          show Go _ _ _ _ (s₁.setTop (mkF m 62 #[.val (.int ((((y.toUInt32 >>> ((16 : Int32) &&& 31).toUInt32).toInt32).toUInt32 >>> ((8 : Int32) &&& 31).toUInt32).toInt32)), .val (.int (((1 : Int32) + (16 : Int32)) + (8 : Int32)))] []))
          refine Go.step (fun _ k => XS.iloadN X0.here hx rfl (hb hby d10_62) rfl k) ?_
          show Go _ _ _ _ (s₁.setTop (mkF m 63 #[.val (.int ((((y.toUInt32 >>> ((16 : Int32) &&& 31).toUInt32).toInt32).toUInt32 >>> ((8 : Int32) &&& 31).toUInt32).toInt32)), .val (.int (((1 : Int32) + (16 : Int32)) + (8 : Int32)))] [(.int ((((y.toUInt32 >>> ((16 : Int32) &&& 31).toUInt32).toInt32).toUInt32 >>> ((8 : Int32) &&& 31).toUInt32).toInt32))]))
          refine Go.step (fun _ k => XS.iconst X0.here hx rfl (hb hby d10_63) k) ?_
          show Go _ _ _ _ (s₁.setTop (mkF m 64 #[.val (.int ((((y.toUInt32 >>> ((16 : Int32) &&& 31).toUInt32).toInt32).toUInt32 >>> ((8 : Int32) &&& 31).toUInt32).toInt32)), .val (.int (((1 : Int32) + (16 : Int32)) + (8 : Int32)))] [(.int (4 : Int32)), (.int ((((y.toUInt32 >>> ((16 : Int32) &&& 31).toUInt32).toInt32).toUInt32 >>> ((8 : Int32) &&& 31).toUInt32).toInt32))]))
          by_cases hc6 : (4 : Int32) < ((((y.toUInt32 >>> ((16 : Int32) &&& 31).toUInt32).toInt32).toUInt32 >>> ((8 : Int32) &&& 31).toUInt32).toInt32)
          · refine Go.step (fun _ k => XS.icmpNo X0.here hx rfl (hb hby d10_64) rfl (tlt hc6).2.2.2 k) ?_
            show Go _ _ _ _ (s₁.setTop (mkF m 67 #[.val (.int ((((y.toUInt32 >>> ((16 : Int32) &&& 31).toUInt32).toInt32).toUInt32 >>> ((8 : Int32) &&& 31).toUInt32).toInt32)), .val (.int (((1 : Int32) + (16 : Int32)) + (8 : Int32)))] []))
            refine Go.step (fun _ k => XS.iinc X0.here hx rfl (hb hby d10_67) rfl (l' := #[.val (.int ((((y.toUInt32 >>> ((16 : Int32) &&& 31).toUInt32).toInt32).toUInt32 >>> ((8 : Int32) &&& 31).toUInt32).toInt32)), .val (.int ((((1 : Int32) + (16 : Int32)) + (8 : Int32)) + (2 : Int32)))]) rfl k) ?_
            show Go _ _ _ _ (s₁.setTop (mkF m 70 #[.val (.int ((((y.toUInt32 >>> ((16 : Int32) &&& 31).toUInt32).toInt32).toUInt32 >>> ((8 : Int32) &&& 31).toUInt32).toInt32)), .val (.int ((((1 : Int32) + (16 : Int32)) + (8 : Int32)) + (2 : Int32)))] []))
            refine Go.step (fun _ k => XS.iloadN X0.here hx rfl (hb hby d10_70) rfl k) ?_
            show Go _ _ _ _ (s₁.setTop (mkF m 71 #[.val (.int ((((y.toUInt32 >>> ((16 : Int32) &&& 31).toUInt32).toInt32).toUInt32 >>> ((8 : Int32) &&& 31).toUInt32).toInt32)), .val (.int ((((1 : Int32) + (16 : Int32)) + (8 : Int32)) + (2 : Int32)))] [(.int ((((y.toUInt32 >>> ((16 : Int32) &&& 31).toUInt32).toInt32).toUInt32 >>> ((8 : Int32) &&& 31).toUInt32).toInt32))]))
            refine Go.step (fun _ k => XS.iconst X0.here hx rfl (hb hby d10_71) k) ?_
            show Go _ _ _ _ (s₁.setTop (mkF m 72 #[.val (.int ((((y.toUInt32 >>> ((16 : Int32) &&& 31).toUInt32).toInt32).toUInt32 >>> ((8 : Int32) &&& 31).toUInt32).toInt32)), .val (.int ((((1 : Int32) + (16 : Int32)) + (8 : Int32)) + (2 : Int32)))] [(.int (2 : Int32)), (.int ((((y.toUInt32 >>> ((16 : Int32) &&& 31).toUInt32).toInt32).toUInt32 >>> ((8 : Int32) &&& 31).toUInt32).toInt32))]))
            refine Go.step (fun _ k => XS.iushr X0.here hx rfl (hb hby d10_72) rfl k) ?_
            show Go _ _ _ _ (s₁.setTop (mkF m 73 #[.val (.int ((((y.toUInt32 >>> ((16 : Int32) &&& 31).toUInt32).toInt32).toUInt32 >>> ((8 : Int32) &&& 31).toUInt32).toInt32)), .val (.int ((((1 : Int32) + (16 : Int32)) + (8 : Int32)) + (2 : Int32)))] [(.int ((((((y.toUInt32 >>> ((16 : Int32) &&& 31).toUInt32).toInt32).toUInt32 >>> ((8 : Int32) &&& 31).toUInt32).toInt32).toUInt32 >>> ((2 : Int32) &&& 31).toUInt32).toInt32))]))
            refine Go.step (fun _ k => XS.istoreN X0.here hx rfl (hb hby d10_73) rfl (l' := #[.val (.int ((((((y.toUInt32 >>> ((16 : Int32) &&& 31).toUInt32).toInt32).toUInt32 >>> ((8 : Int32) &&& 31).toUInt32).toInt32).toUInt32 >>> ((2 : Int32) &&& 31).toUInt32).toInt32)), .val (.int ((((1 : Int32) + (16 : Int32)) + (8 : Int32)) + (2 : Int32)))]) rfl k) ?_
            show Go _ _ _ _ (s₁.setTop (mkF m 74 #[.val (.int ((((((y.toUInt32 >>> ((16 : Int32) &&& 31).toUInt32).toInt32).toUInt32 >>> ((8 : Int32) &&& 31).toUInt32).toInt32).toUInt32 >>> ((2 : Int32) &&& 31).toUInt32).toInt32)), .val (.int ((((1 : Int32) + (16 : Int32)) + (8 : Int32)) + (2 : Int32)))] []))
            refine Go.step (fun _ k => XS.iloadN X0.here hx rfl (hb hby d10_74) rfl k) ?_
            show Go _ _ _ _ (s₁.setTop (mkF m 75 #[.val (.int ((((((y.toUInt32 >>> ((16 : Int32) &&& 31).toUInt32).toInt32).toUInt32 >>> ((8 : Int32) &&& 31).toUInt32).toInt32).toUInt32 >>> ((2 : Int32) &&& 31).toUInt32).toInt32)), .val (.int ((((1 : Int32) + (16 : Int32)) + (8 : Int32)) + (2 : Int32)))] [(.int ((((1 : Int32) + (16 : Int32)) + (8 : Int32)) + (2 : Int32)))]))
            refine Go.step (fun _ k => XS.iloadN X0.here hx rfl (hb hby d10_75) rfl k) ?_
            show Go _ _ _ _ (s₁.setTop (mkF m 76 #[.val (.int ((((((y.toUInt32 >>> ((16 : Int32) &&& 31).toUInt32).toInt32).toUInt32 >>> ((8 : Int32) &&& 31).toUInt32).toInt32).toUInt32 >>> ((2 : Int32) &&& 31).toUInt32).toInt32)), .val (.int ((((1 : Int32) + (16 : Int32)) + (8 : Int32)) + (2 : Int32)))] [(.int ((((((y.toUInt32 >>> ((16 : Int32) &&& 31).toUInt32).toInt32).toUInt32 >>> ((8 : Int32) &&& 31).toUInt32).toInt32).toUInt32 >>> ((2 : Int32) &&& 31).toUInt32).toInt32)), (.int ((((1 : Int32) + (16 : Int32)) + (8 : Int32)) + (2 : Int32)))]))
            refine Go.step (fun _ k => XS.iconst X0.here hx rfl (hb hby d10_76) k) ?_
            show Go _ _ _ _ (s₁.setTop (mkF m 77 #[.val (.int ((((((y.toUInt32 >>> ((16 : Int32) &&& 31).toUInt32).toInt32).toUInt32 >>> ((8 : Int32) &&& 31).toUInt32).toInt32).toUInt32 >>> ((2 : Int32) &&& 31).toUInt32).toInt32)), .val (.int ((((1 : Int32) + (16 : Int32)) + (8 : Int32)) + (2 : Int32)))] [(.int (1 : Int32)), (.int ((((((y.toUInt32 >>> ((16 : Int32) &&& 31).toUInt32).toInt32).toUInt32 >>> ((8 : Int32) &&& 31).toUInt32).toInt32).toUInt32 >>> ((2 : Int32) &&& 31).toUInt32).toInt32)), (.int ((((1 : Int32) + (16 : Int32)) + (8 : Int32)) + (2 : Int32)))]))
            refine Go.step (fun _ k => XS.iushr X0.here hx rfl (hb hby d10_77) rfl k) ?_
            show Go _ _ _ _ (s₁.setTop (mkF m 78 #[.val (.int ((((((y.toUInt32 >>> ((16 : Int32) &&& 31).toUInt32).toInt32).toUInt32 >>> ((8 : Int32) &&& 31).toUInt32).toInt32).toUInt32 >>> ((2 : Int32) &&& 31).toUInt32).toInt32)), .val (.int ((((1 : Int32) + (16 : Int32)) + (8 : Int32)) + (2 : Int32)))] [(.int ((((((((y.toUInt32 >>> ((16 : Int32) &&& 31).toUInt32).toInt32).toUInt32 >>> ((8 : Int32) &&& 31).toUInt32).toInt32).toUInt32 >>> ((2 : Int32) &&& 31).toUInt32).toInt32).toUInt32 >>> ((1 : Int32) &&& 31).toUInt32).toInt32)), (.int ((((1 : Int32) + (16 : Int32)) + (8 : Int32)) + (2 : Int32)))]))
            refine Go.step (fun _ k => XS.iadd X0.here hx rfl (hb hby d10_78) rfl k) ?_
            show Go _ _ _ _ (s₁.setTop (mkF m 79 #[.val (.int ((((((y.toUInt32 >>> ((16 : Int32) &&& 31).toUInt32).toInt32).toUInt32 >>> ((8 : Int32) &&& 31).toUInt32).toInt32).toUInt32 >>> ((2 : Int32) &&& 31).toUInt32).toInt32)), .val (.int ((((1 : Int32) + (16 : Int32)) + (8 : Int32)) + (2 : Int32)))] [(.int (((((1 : Int32) + (16 : Int32)) + (8 : Int32)) + (2 : Int32)) + ((((((((y.toUInt32 >>> ((16 : Int32) &&& 31).toUInt32).toInt32).toUInt32 >>> ((8 : Int32) &&& 31).toUInt32).toInt32).toUInt32 >>> ((2 : Int32) &&& 31).toUInt32).toInt32).toUInt32 >>> ((1 : Int32) &&& 31).toUInt32).toInt32)))]))
            exact leafI X0 hx hret hlk (hb hby d10_79) ⟨by rw [own_t, if_pos hc1, if_pos hc2, if_pos hc3, if_neg hc4, if_pos hc6], e0, rfl⟩ (by decide) (by decide)
          · refine Go.step (fun _ k => XS.icmpYes X0.here hx rfl (pc0 := 64) (pc' := 74) rfl (hb hby d10_64) rfl (flt hc6).2.2.2 (by decide) (by decide) k) ?_
            show Go _ _ _ _ (s₁.setTop (mkF m 74 #[.val (.int ((((y.toUInt32 >>> ((16 : Int32) &&& 31).toUInt32).toInt32).toUInt32 >>> ((8 : Int32) &&& 31).toUInt32).toInt32)), .val (.int (((1 : Int32) + (16 : Int32)) + (8 : Int32)))] []))
            refine Go.step (fun _ k => XS.iloadN X0.here hx rfl (hb hby d10_74) rfl k) ?_
            show Go _ _ _ _ (s₁.setTop (mkF m 75 #[.val (.int ((((y.toUInt32 >>> ((16 : Int32) &&& 31).toUInt32).toInt32).toUInt32 >>> ((8 : Int32) &&& 31).toUInt32).toInt32)), .val (.int (((1 : Int32) + (16 : Int32)) + (8 : Int32)))] [(.int (((1 : Int32) + (16 : Int32)) + (8 : Int32)))]))
            refine Go.step (fun _ k => XS.iloadN X0.here hx rfl (hb hby d10_75) rfl k) ?_
            show Go _ _ _ _ (s₁.setTop (mkF m 76 #[.val (.int ((((y.toUInt32 >>> ((16 : Int32) &&& 31).toUInt32).toInt32).toUInt32 >>> ((8 : Int32) &&& 31).toUInt32).toInt32)), .val (.int (((1 : Int32) + (16 : Int32)) + (8 : Int32)))] [(.int ((((y.toUInt32 >>> ((16 : Int32) &&& 31).toUInt32).toInt32).toUInt32 >>> ((8 : Int32) &&& 31).toUInt32).toInt32)), (.int (((1 : Int32) + (16 : Int32)) + (8 : Int32)))]))
            refine Go.step (fun _ k => XS.iconst X0.here hx rfl (hb hby d10_76) k) ?_
            show Go _ _ _ _ (s₁.setTop (mkF m 77 #[.val (.int ((((y.toUInt32 >>> ((16 : Int32) &&& 31).toUInt32).toInt32).toUInt32 >>> ((8 : Int32) &&& 31).toUInt32).toInt32)), .val (.int (((1 : Int32) + (16 : Int32)) + (8 : Int32)))] [(.int (1 : Int32)), (.int ((((y.toUInt32 >>> ((16 : Int32) &&& 31).toUInt32).toInt32).toUInt32 >>> ((8 : Int32) &&& 31).toUInt32).toInt32)), (.int (((1 : Int32) + (16 : Int32)) + (8 : Int32)))]))
            refine Go.step (fun _ k => XS.iushr X0.here hx rfl (hb hby d10_77) rfl k) ?_
            show Go _ _ _ _ (s₁.setTop (mkF m 78 #[.val (.int ((((y.toUInt32 >>> ((16 : Int32) &&& 31).toUInt32).toInt32).toUInt32 >>> ((8 : Int32) &&& 31).toUInt32).toInt32)), .val (.int (((1 : Int32) + (16 : Int32)) + (8 : Int32)))] [(.int ((((((y.toUInt32 >>> ((16 : Int32) &&& 31).toUInt32).toInt32).toUInt32 >>> ((8 : Int32) &&& 31).toUInt32).toInt32).toUInt32 >>> ((1 : Int32) &&& 31).toUInt32).toInt32)), (.int (((1 : Int32) + (16 : Int32)) + (8 : Int32)))]))
            refine Go.step (fun _ k => XS.iadd X0.here hx rfl (hb hby d10_78) rfl k) ?_
            show Go _ _ _ _ (s₁.setTop (mkF m 79 #[.val (.int ((((y.toUInt32 >>> ((16 : Int32) &&& 31).toUInt32).toInt32).toUInt32 >>> ((8 : Int32) &&& 31).toUInt32).toInt32)), .val (.int (((1 : Int32) + (16 : Int32)) + (8 : Int32)))] [(.int ((((1 : Int32) + (16 : Int32)) + (8 : Int32)) + ((((((y.toUInt32 >>> ((16 : Int32) &&& 31).toUInt32).toInt32).toUInt32 >>> ((8 : Int32) &&& 31).toUInt32).toInt32).toUInt32 >>> ((1 : Int32) &&& 31).toUInt32).toInt32)))]))
            exact leafI X0 hx hret hlk (hb hby d10_79) ⟨by rw [own_t, if_pos hc1, if_pos hc2, if_pos hc3, if_neg hc4, if_neg hc6], e0, rfl⟩ (by decide) (by decide)
      · refine Go.step (fun _ k => XS.icmpYes X0.here hx rfl (pc0 := 38) (pc' := 49) rfl (hb hby d10_38) rfl (flt hc3).2.2.2 (by decide) (by decide) k) ?_
        show Go _ _ _ _ (s₁.setTop (mkF m 49 #[.val (.int ((y.toUInt32 >>> ((16 : Int32) &&& 31).toUInt32).toInt32)), .val (.int ((1 : Int32) + (16 : Int32)))] []))
        refine Go.step (fun _ k => XS.iloadN X0.here hx rfl (hb hby d10_49) rfl k) ?_
        show Go _ _ _ _ (s₁.setTop (mkF m 50 #[.val (.int ((y.toUInt32 >>> ((16 : Int32) &&& 31).toUInt32).toInt32)), .val (.int ((1 : Int32) + (16 : Int32)))] [(.int ((y.toUInt32 >>> ((16 : Int32) &&& 31).toUInt32).toInt32))]))
        refine Go.step (fun _ k => XS.bipush X0.here hx rfl (hb hby d10_50) k) ?_
        show Go _ _ _ _ (s₁.setTop (mkF m 52 #[.val (.int ((y.toUInt32 >>> ((16 : Int32) &&& 31).toUInt32).toInt32)), .val (.int ((1 : Int32) + (16 : Int32)))] [(.int (16 : Int32)), (.int ((y.toUInt32 >>> ((16 : Int32) &&& 31).toUInt32).toInt32))]))
        by_cases hc7 : (16 : Int32) < ((y.toUInt32 >>> ((16 : Int32) &&& 31).toUInt32).toInt32)
        · refine Go.step (fun _ k => XS.icmpNo X0.here hx rfl (hb hby d10_52) rfl (tlt hc7).2.2.2 k) ?_
          show Go _ _ _ _ (s₁.setTop (mkF m 55 #[.val (.int ((y.toUInt32 >>> ((16 : Int32) &&& 31).toUInt32).toInt32)), .val (.int ((1 : Int32) + (16 : Int32)))] []))
          refine Go.step (fun _ k => XS.iinc X0.here hx rfl (hb hby d10_55) rfl (l' := #[.val (.int ((y.toUInt32 >>> ((16 : Int32) &&& 31).toUInt32).toInt32)), .val (.int (((1 : Int32) + (16 : Int32)) + (4 : Int32)))]) rfl k) ?_
          show Go _ _ _ _ (s₁.setTop (mkF m 58 #[.val (.int ((y.toUInt32 >>> ((16 : Int32) &&& 31).toUInt32).toInt32)), .val (.int (((1 : Int32) + (16 : Int32)) + (4 : Int32)))] []))
          refine Go.step (fun _ k => XS.iloadN X0.here hx rfl (hb hby d10_58) rfl k) ?_
          show Go _ _ _ _ (s₁.setTop (mkF m 59 #[.val (.int ((y.toUInt32 >>> ((16 : Int32) &&& 31).toUInt32).toInt32)), .val (.int (((1 : Int32) + (16 : Int32)) + (4 : Int32)))] [(.int ((y.toUInt32 >>> ((16 : Int32) &&& 31).toUInt32).toInt32))]))
          refine Go.step (fun _ k => XS.iconst X0.here hx rfl (hb hby d10_59) k) ?_
          show Go _ _ _ _ (s₁.setTop (mkF m 60 #[.val (.int ((y.toUInt32 >>> ((16 : Int32) &&& 31).toUInt32).toInt32)), .val (.int (((1 : Int32) + (16 : Int32)) + (4 : Int32)))] [(.int (4 : Int32)), (.int ((y.toUInt32 >>> ((16 : Int32) &&& 31).toUInt32).toInt32))]))
          refine Go.step (fun _ k => XS.iushr X0.here hx rfl (hb hby d10_60) rfl k) ?_
          show Go _ _ _ _ (s₁.setTop (mkF m 61 #[.val (.int ((y.toUInt32 >>> ((16 : Int32) &&& 31).toUInt32).toInt32)), .val (.int (((1 : Int32) + (16 : Int32)) + (4 : Int32)))] [(.int ((((y.toUInt32 >>> ((16 : Int32) &&& 31).toUInt32).toInt32).toUInt32 >>> ((4 : Int32) &&& 31).toUInt32).toInt32))]))
          refine Go.step (fun _ k => XS.istoreN X0.here hx rfl (hb hby d10_61) rfl (l' := #[.val (.int ((((y.toUInt32 >>> ((16 : Int32) &&& 31).toUInt32).toInt32).toUInt32 >>> ((4 : Int32) &&& 31).toUInt32).toInt32)), .val (.int (((1 : Int32) + (16 : Int32)) + (4 : Int32)))]) rfl k) ?_
          show Go _ _ _ _ (s₁.setTop (mkF m 62 #[.val (.int ((((y.toUInt32 >>> ((16 : Int32) &&& 31).toUInt32).toInt32).toUInt32 >>> ((4 : Int32) &&& 31).toUInt32).toInt32)), .val (.int (((1 : Int32) + (16 : Int32)) + (4 : Int32)))] []))
          refine Go.step (fun _ k => XS.iloadN X0.here hx rfl (hb hby d10_62) rfl k) ?_
          show Go _ _ _ _ (s₁.setTop (mkF m 63 #[.val (.int ((((y.toUInt32 >>> ((16 : Int32) &&& 31).toUInt32).toInt32).toUInt32 >>> ((4 : Int32) &&& 31).toUInt32).toInt32)), .val (.int (((1 : Int32) + (16 : Int32)) + (4 : Int32)))] [(.int ((((y.toUInt32 >>> ((16 : Int32) &&& 31).toUInt32).toInt32).toUInt32 >>> ((4 : Int32) &&& 31).toUInt32).toInt32))]))
          refine Go.step (fun _ k => XS.iconst X0.here hx rfl (hb hby d10_63) k) ?_
          show Go _ _ _ _ (s₁.setTop (mkF m 64 #[.val (.int ((((y.toUInt32 >>> ((16 : Int32) &&& 31).toUInt32).toInt32).toUInt32 >>> ((4 : Int32) &&& 31).toUInt32).toInt32)), .val (.int (((1 : Int32) + (16 : Int32)) + (4 : Int32)))] [(.int (4 : Int32)), (.int ((((y.toUInt32 >>> ((16 : Int32) &&& 31).toUInt32).toInt32).toUInt32 >>> ((4 : Int32) &&& 31).toUInt32).toInt32))]))
          by_cases hc8 : (4 : Int32) < ((((y.toUInt32 >>> ((16 : Int32) &&& 31).toUInt32).toInt32).toUInt32 >>> ((4 : Int32) &&& 31).toUInt32).toInt32)
          · refine Go.step (fun _ k => XS.icmpNo X0.here hx rfl (hb hby d10_64) rfl (tlt hc8).2.2.2 k) ?_
            show Go _ _ _ _ (s₁.setTop (mkF m 67 #[.val (.int ((((y.toUInt32 >>> ((16 : Int32) &&& 31).toUInt32).toInt32).toUInt32 >>> ((4 : Int32) &&& 31).toUInt32).toInt32)), .val (.int (((1 : Int32) + (16 : Int32)) + (4 : Int32)))] []))
            refine Go.step (fun _ k => XS.iinc X0.here hx rfl (hb hby d10_67) rfl (l' := #[.val (.int ((((y.toUInt32 >>> ((16 : Int32) &&& 31).toUInt32).toInt32).toUInt32 >>> ((4 : Int32) &&& 31).toUInt32).toInt32)), .val (.int ((((1 : Int32) + (16 : Int32)) + (4 : Int32)) + (2 : Int32)))]) rfl k) ?_
            show Go _ _ _ _ (s₁.setTop (mkF m 70 #[.val (.int ((((y.toUInt32 >>> ((16 : Int32) &&& 31).toUInt32).toInt32).toUInt32 >>> ((4 : Int32) &&& 31).toUInt32).toInt32)), .val (.int ((((1 : Int32) + (16 : Int32)) + (4 : Int32)) + (2 : Int32)))] []))
            refine Go.step (fun _ k => XS.iloadN X0.here hx rfl (hb hby d10_70) rfl k) ?_
            show Go _ _ _ _ (s₁.setTop (mkF m 71 #[.val (.int ((((y.toUInt32 >>> ((16 : Int32) &&& 31).toUInt32).toInt32).toUInt32 >>> ((4 : Int32) &&& 31).toUInt32).toInt32)), .val (.int ((((1 : Int32) + (16 : Int32)) + (4 : Int32)) + (2 : Int32)))] [(.int ((((y.toUInt32 >>> ((16 : Int32) &&& 31).toUInt32).toInt32).toUInt32 >>> ((4 : Int32) &&& 31).toUInt32).toInt32))]))
            refine Go.step (fun _ k => XS.iconst X0.here hx rfl (hb hby d10_71) k) ?_
            show Go _ _ _ _ (s₁.setTop (mkF m 72 #[.val (.int ((((y.toUInt32 >>> ((16 : Int32) &&& 31).toUInt32).toInt32).toUInt32 >>> ((4 : Int32) &&& 31).toUInt32).toInt32)), .val (.int ((((1 : Int32) + (16 : Int32)) + (4 : Int32)) + (2 : Int32)))] [(.int (2 : Int32)), (.int ((((y.toUInt32 >>> ((16 : Int32) &&& 31).toUInt32).toInt32).toUInt32 >>> ((4 : Int32) &&& 31).toUInt32).toInt32))]))
            refine Go.step (fun _ k => XS.iushr X0.here hx rfl (hb hby d10_72) rfl k) ?_
            show Go _ _ _ _ (s₁.setTop (mkF m 73 #[.val (.int ((((y.toUInt32 >>> ((16 : Int32) &&& 31).toUInt32).toInt32).toUInt32 >>> ((4 : Int32) &&& 31).toUInt32).toInt32)), .val (.int ((((1 : Int32) + (16 : Int32)) + (4 : Int32)) + (2 : Int32)))] [(.int ((((((y.toUInt32 >>> ((16 : Int32) &&& 31).toUInt32).toInt32).toUInt32 >>> ((4 : Int32) &&& 31).toUInt32).toInt32).toUInt32 >>> ((2 : Int32) &&& 31).toUInt32).toInt32))]))
            refine Go.step (fun _ k => XS.istoreN X0.here hx rfl (hb hby d10_73) rfl (l' := #[.val (.int ((((((y.toUInt32 >>> ((16 : Int32) &&& 31).toUInt32).toInt32).toUInt32 >>> ((4 : Int32) &&& 31).toUInt32).toInt32).toUInt32 >>> ((2 : Int32) &&& 31).toUInt32).toInt32)), .val (.int ((((1 : Int32) + (16 : Int32)) + (4 : Int32)) + (2 : Int32)))]) rfl k) ?_
            show Go _ _ _ _ (s₁.setTop (mkF m 74 #[.val (.int ((((((y.toUInt32 >>> ((16 : Int32) &&& 31).toUInt32).toInt32).toUInt32 >>> ((4 : Int32) &&& 31).toUInt32).toInt32).toUInt32 >>> ((2 : Int32) &&& 31).toUInt32).toInt32)), .val (.int ((((1 : Int32) + (16 : Int32)) + (4 : Int32)) + (2 : Int32)))] []))
            refine Go.step (fun _ k => XS.iloadN X0.here hx rfl (hb hby d10_74) rfl k) ?_
            show Go _ _ _ _ (s₁.setTop (mkF m 75 #[.val (.int ((((((y.toUInt32 >>> ((16 : Int32) &&& 31).toUInt32).toInt32).toUInt32 >>> ((4 : Int32) &&& 31).toUInt32).toInt32).toUInt32 >>> ((2 : Int32) &&& 31).toUInt32).toInt32)), .val (.int ((((1 : Int32) + (16 : Int32)) + (4 : Int32)) + (2 : Int32)))] [(.int ((((1 : Int32) + (16 : Int32)) + (4 : Int32)) + (2 : Int32)))]))
            refine Go.step (fun _ k => XS.iloadN X0.here hx rfl (hb hby d10_75) rfl k) ?_
            show Go _ _ _ _ (s₁.setTop (mkF m 76 #[.val (.int ((((((y.toUInt32 >>> ((16 : Int32) &&& 31).toUInt32).toInt32).toUInt32 >>> ((4 : Int32) &&& 31).toUInt32).toInt32).toUInt32 >>> ((2 : Int32) &&& 31).toUInt32).toInt32)), .val (.int ((((1 : Int32) + (16 : Int32)) + (4 : Int32)) + (2 : Int32)))] [(.int ((((((y.toUInt32 >>> ((16 : Int32) &&& 31).toUInt32).toInt32).toUInt32 >>> ((4 : Int32) &&& 31).toUInt32).toInt32).toUInt32 >>> ((2 : Int32) &&& 31).toUInt32).toInt32)), (.int ((((1 : Int32) + (16 : Int32)) + (4 : Int32)) + (2 : Int32)))]))
            refine Go.step (fun _ k => XS.iconst X0.here hx rfl (hb hby d10_76) k) ?_
            show Go _ _ _ _ (s₁.setTop (mkF m 77 #[.val (.int ((((((y.toUInt32 >>> ((16 : Int32) &&& 31).toUInt32).toInt32).toUInt32 >>> ((4 : Int32) &&& 31).toUInt32).toInt32).toUInt32 >>> ((2 : Int32) &&& 31).toUInt32).toInt32)), .val (.int ((((1 : Int32) + (16 : Int32)) + (4 : Int32)) + (2 : Int32)))] [(.int (1 : Int32)), (.int ((((((y.toUInt32 >>> ((16 : Int32) &&& 31).toUInt32).toInt32).toUInt32 >>> ((4 : Int32) &&& 31).toUInt32).toInt32).toUInt32 >>> ((2 : Int32) &&& 31).toUInt32).toInt32)), (.int ((((1 : Int32) + (16 : Int32)) + (4 : Int32)) + (2 : Int32)))]))
            refine Go.step (fun _ k => XS.iushr X0.here hx rfl (hb hby d10_77) rfl k) ?_
            show Go _ _ _ _ (s₁.setTop (mkF m 78 #[.val (.int ((((((y.toUInt32 >>> ((16 : Int32) &&& 31).toUInt32).toInt32).toUInt32 >>> ((4 : Int32) &&& 31).toUInt32).toInt32).toUInt32 >>> ((2 : Int32) &&& 31).toUInt32).toInt32)), .val (.int ((((1 : Int32) + (16 : Int32)) + (4 : Int32)) + (2 : Int32)))] [(.int ((((((((y.toUInt32 >>> ((16 : Int32) &&& 31).toUInt32).toInt32).toUInt32 >>> ((4 : Int32) &&& 31).toUInt32).toInt32).toUInt32 >>> ((2 : Int32) &&& 31).toUInt32).toInt32).toUInt32 >>> ((1 : Int32) &&& 31).toUInt32).toInt32)), (.int ((((1 : Int32) + (16 : Int32)) + (4 : Int32)) + (2 : Int32)))]))
            refine Go.step (fun _ k => XS.iadd X0.here hx rfl (hb hby d10_78) rfl k) ?_
            show Go _ _ _ _ (s₁.setTop (mkF m 79 #[.val (.int ((((((y.toUInt32 >>> ((16 : Int32) &&& 31).toUInt32).toInt32).toUInt32 >>> ((4 : Int32) &&& 31).toUInt32).toInt32).toUInt32 >>> ((2 : Int32) &&& 31).toUInt32).toInt32)), .val (.int ((((1 : Int32) + (16 : Int32)) + (4 : Int32)) + (2 : Int32)))] [(.int (((((1 : Int32) + (16 : Int32)) + (4 : Int32)) + (2 : Int32)) + ((((((((y.toUInt32 >>> ((16 : Int32) &&& 31).toUInt32).toInt32).toUInt32 >>> ((4 : Int32) &&& 31).toUInt32).toInt32).toUInt32 >>> ((2 : Int32) &&& 31).toUInt32).toInt32).toUInt32 >>> ((1 : Int32) &&& 31).toUInt32).toInt32)))]))
            exact leafI X0 hx hret hlk (hb hby d10_79) ⟨by rw [own_t, if_pos hc1, if_pos hc2, if_neg hc3, if_pos hc7, if_pos hc8], e0, rfl⟩ (by decide) (by decide)
          · refine Go.step (fun _ k => XS.icmpYes X0.here hx rfl (pc0 := 64) (pc' := 74) rfl (hb hby d10_64) rfl (flt hc8).2.2.2 (by decide) (by decide) k) ?_
            show Go _ _ _ _ (s₁.setTop (mkF m 74 #[.val (.int ((((y.toUInt32 >>> ((16 : Int32) &&& 31).toUInt32).toInt32).toUInt32 >>> ((4 : Int32) &&& 31).toUInt32).toInt32)), .val (.int (((1 : Int32) + (16 : Int32)) + (4 : Int32)))] []))
            refine Go.step (fun _ k => XS.iloadN X0.here hx rfl (hb hby d10_74) rfl k) ?_
            show Go _ _ _ _ (s₁.setTop (mkF m 75 #[.val (.int ((((y.toUInt32 >>> ((16 : Int32) &&& 31).toUInt32).toInt32).toUInt32 >>> ((4 : Int32) &&& 31).toUInt32).toInt32)), .val (.int (((1 : Int32) + (16 : Int32)) + (4 : Int32)))] [(.int (((1 : Int32) + (16 : Int32)) + (4 : Int32)))]))
            refine Go.step (fun _ k => XS.iloadN X0.here hx rfl (hb hby d10_75) rfl k) ?_
            show Go _ _ _ _ (s₁.setTop (mkF m 76 #[.val (.int ((((y.toUInt32 >>> ((16 : Int32) &&& 31).toUInt32).toInt32).toUInt32 >>> ((4 : Int32) &&& 31).toUInt32).toInt32)), .val (.int (((1 : Int32) + (16 : Int32)) + (4 : Int32)))] [(.int ((((y.toUInt32 >>> ((16 : Int32) &&& 31).toUInt32).toInt32).toUInt32 >>> ((4 : Int32) &&& 31).toUInt32).toInt32)), (.int (((1 : Int32) + (16 : Int32)) + (4 : Int32)))]))
            refine Go.step (fun _ k => XS.iconst X0.here hx rfl (hb hby d10_76) k) ?_
            show Go _ _ _ _ (s₁.setTop (mkF m 77 #[.val (.int ((((y.toUInt32 >>> ((16 : Int32) &&& 31).toUInt32).toInt32).toUInt32 >>> ((4 : Int32) &&& 31).toUInt32).toInt32)), .val (.int (((1 : Int32) + (16 : Int32)) + (4 : Int32)))] [(.int (1 : Int32)), (.int ((((y.toUInt32 >>> ((16 : Int32) &&& 31).toUInt32).toInt32).toUInt32 >>> ((4 : Int32) &&& 31).toUInt32).toInt32)), (.int (((1 : Int32) + (16 : Int32)) + (4 : Int32)))]))
            refine Go.step (fun _ k => XS.iushr X0.here hx rfl (hb hby d10_77) rfl k) ?_
            show Go _ _ _ _ (s₁.setTop (mkF m 78 #[.val (.int ((((y.toUInt32 >>> ((16 : Int32) &&& 31).toUInt32).toInt32).toUInt32 >>> ((4 : Int32) &&& 31).toUInt32).toInt32)), .val (.int (((1 : Int32) + (16 : Int32)) + (4 : Int32)))] [(.int ((((((y.toUInt32 >>> ((16 : Int32) &&& 31).toUInt32).toInt32).toUInt32 >>> ((4 : Int32) &&& 31).toUInt32).toInt32).toUInt32 >>> ((1 : Int32) &&& 31).toUInt32).toInt32)), (.int (((1 : Int32) + (16 : Int32)) + (4 : Int32)))]))
            refine Go.step (fun _ k => XS.iadd X0.here hx rfl (hb hby d10_78) rfl k) ?_
            show Go _ _ _ _ (s₁.setTop (mkF m 79 #[.val (.int ((((y.toUInt32 >>> ((16 : Int32) &&& 31).toUInt32).toInt32).toUInt32 >>> ((4 : Int32) &&& 31).toUInt32).toInt32)), .val (.int (((1 : Int32) + (16 : Int32)) + (4 : Int32)))] [(.int ((((1 : Int32) + (16 : Int32)) + (4 : Int32)) + ((((((y.toUInt32 >>> ((16 : Int32) &&& 31).toUInt32).toInt32).toUInt32 >>> ((4 : Int32) &&& 31).toUInt32).toInt32).toUInt32 >>> ((1 : Int32) &&& 31).toUInt32).toInt32)))]))
            exact leafI X0 hx hret hlk (hb hby d10_79) ⟨by rw [own_t, if_pos hc1, if_pos hc2, if_neg hc3, if_pos hc7, if_neg hc8], e0, rfl⟩ (by decide) (by decide)
        · refine Go.step (fun _ k => XS.icmpYes X0.here hx rfl (pc0 := 52) (pc' := 62) rfl (hb hby d10_52) rfl (flt hc7).2.2.2 (by decide) (by decide) k) ?_
          show Go _ _ _ _ (s₁.setTop (mkF m 62 #[.val (.int ((y.toUInt32 >>> ((16 : Int32) &&& 31).toUInt32).toInt32)), .val (.int ((1 : Int32) + (16 : Int32)))] []))
          refine Go.step (fun _ k => XS.iloadN X0.here hx rfl (hb hby d10_62) rfl k) ?_
          show Go _ _ _ _ (s₁.setTop (mkF m 63 #[.val (.int ((y.toUInt32 >>> ((16 : Int32) &&& 31).toUInt32).toInt32)), .val (.int ((1 : Int32) + (16 : Int32)))] [(.int ((y.toUInt32 >>> ((16 : Int32) &&& 31).toUInt32).toInt32))]))
          refine Go.step (fun _ k => XS.iconst X0.here hx rfl (hb hby d10_63) k) ?_
          show Go _ _ _ _ (s₁.setTop (mkF m 64 #[.val (.int ((y.toUInt32 >>> ((16 : Int32) &&& 31).toUInt32).toInt32)), .val (.int ((1 : Int32) + (16 : Int32)))] [(.int (4 : Int32)), (.int ((y.toUInt32 >>> ((16 : Int32) &&& 31).toUInt32).toInt32))]))
          by_cases hc9 : (4 : Int32) < ((y.toUInt32 >>> ((16 : Int32) &&& 31).toUInt32).toInt32)
          · refine Go.step (fun _ k => XS.icmpNo X0.here hx rfl (hb hby d10_64) rfl (tlt hc9).2.2.2 k) ?_
            show Go _ _ _ _ (s₁.setTop (mkF m 67 #[.val (.int ((y.toUInt32 >>> ((16 : Int32) &&& 31).toUInt32).toInt32)), .val (.int ((1 : Int32) + (16 : Int32)))] []))
            refine Go.step (fun _ k => XS.iinc X0.here hx rfl (hb hby d10_67) rfl (l' := #[.val (.int ((y.toUInt32 >>> ((16 : Int32) &&& 31).toUInt32).toInt32)), .val (.int (((1 : Int32) + (16 : Int32)) + (2 : Int32)))]) rfl k) ?_
            show Go _ _ _ _ (s₁.setTop (mkF m 70 #[.val (.int ((y.toUInt32 >>> ((16 : Int32) &&& 31).toUInt32).toInt32)), .val (.int (((1 : Int32) + (16 : Int32)) + (2 : Int32)))] []))
            refine Go.step (fun _ k => XS.iloadN X0.here hx rfl (hb hby d10_70) rfl k) ?_
            show Go _ _ _ _ (s₁.setTop (mkF m 71 #[.val (.int ((y.toUInt32 >>> ((16 : Int32) &&& 31).toUInt32).toInt32)), .val (.int (((1 : Int32) + (16 : Int32)) + (2 : Int32)))] [(.int ((y.toUInt32 >>> ((16 : Int32) &&& 31).toUInt32).toInt32))]))
            refine Go.step (fun _ k => XS.iconst X0.here hx rfl (hb hby d10_71) k) ?_
            show Go _ _ _ _ (s₁.setTop (mkF m 72 #[.val (.int ((y.toUInt32 >>> ((16 : Int32) &&& 31).toUInt32).toInt32)), .val (.int (((1 : Int32) + (16 : Int32)) + (2 : Int32)))] [(.int (2 : Int32)), (.int ((y.toUInt32 >>> ((16 : Int32) &&& 31).toUInt32).toInt32))]))
            refine Go.step (fun _ k => XS.iushr X0.here hx rfl (hb hby d10_72) rfl k) ?_
            show Go _ _ _ _ (s₁.setTop (mkF m 73 #[.val (.int ((y.toUInt32 >>> ((16 : Int32) &&& 31).toUInt32).toInt32)), .val (.int (((1 : Int32) + (16 : Int32)) + (2 : Int32)))] [(.int ((((y.toUInt32 >>> ((16 : Int32) &&& 31).toUInt32).toInt32).toUInt32 >>> ((2 : Int32) &&& 31).toUInt32).toInt32))]))
            refine Go.step (fun _ k => XS.istoreN X0.here hx rfl (hb hby d10_73) rfl (l' := #[.val (.int ((((y.toUInt32 >>> ((16 : Int32) &&& 31).toUInt32).toInt32).toUInt32 >>> ((2 : Int32) &&& 31).toUInt32).toInt32)), .val (.int (((1 : Int32) + (16 : Int32)) + (2 : Int32)))]) rfl k) ?_
            show Go _ _ _ _ (s₁.setTop (mkF m 74 #[.val (.int ((((y.toUInt32 >>> ((16 : Int32) &&& 31).toUInt32).toInt32).toUInt32 >>> ((2 : Int32) &&& 31).toUInt32).toInt32)), .val (.int (((1 : Int32) + (16 : Int32)) + (2 : Int32)))] []))
            refine Go.step (fun _ k => XS.iloadN X0.here hx rfl (hb hby d10_74) rfl k) ?_
            show Go _ _ _ _ (s₁.setTop (mkF m 75 #[.val (.int ((((y.toUInt32 >>> ((16 : Int32) &&& 31).toUInt32).toInt32).toUInt32 >>> ((2 : Int32) &&& 31).toUInt32).toInt32)), .val (.int (((1 : Int32) + (16 : Int32)) + (2 : Int32)))] [(.int (((1 : Int32) + (16 : Int32)) + (2 : Int32)))]))
            refine Go.step (fun _ k => XS.iloadN X0.here hx rfl (hb hby d10_75) rfl k) ?_
            show Go _ _ _ _ (s₁.setTop (mkF m 76 #[.val (.int ((((y.toUInt32 >>> ((16 : Int32) &&& 31).toUInt32).toInt32).toUInt32 >>> ((2 : Int32) &&& 31).toUInt32).toInt32)), .val (.int (((1 : Int32) + (16 : Int32)) + (2 : Int32)))] [(.int ((((y.toUInt32 >>> ((16 : Int32) &&& 31).toUInt32).toInt32).toUInt32 >>> ((2 : Int32) &&& 31).toUInt32).toInt32)), (.int (((1 : Int32) + (16 : Int32)) + (2 : Int32)))]))
            refine Go.step (fun _ k => XS.iconst X0.here hx rfl (hb hby d10_76) k) ?_
            show Go _ _ _ _ (s₁.setTop (mkF m 77 #[.val (.int ((((y.toUInt32 >>> ((16 : Int32) &&& 31).toUInt32).toInt32).toUInt32 >>> ((2 : Int32) &&& 31).toUInt32).toInt32)), .val (.int (((1 : Int32) + (16 : Int32)) + (2 : Int32)))] [(.int (1 : Int32)), (.int ((((y.toUInt32 >>> ((16 : Int32) &&& 31).toUInt32).toInt32).toUInt32 >>> ((2 : Int32) &&& 31).toUInt32).toInt32)), (.int (((1 : Int32) + (16 : Int32)) + (2 : Int32)))]))
            refine Go.step (fun _ k => XS.iushr X0.here hx rfl (hb hby d10_77) rfl k) ?_
            show Go _ _ _ _ (s₁.setTop (mkF m 78 #[.val (.int ((((y.toUInt32 >>> ((16 : Int32) &&& 31).toUInt32).toInt32).toUInt32 >>> ((2 : Int32) &&& 31).toUInt32).toInt32)), .val (.int (((1 : Int32) + (16 : Int32)) + (2 : Int32)))] [(.int ((((((y.toUInt32 >>> ((16 : Int32) &&& 31).toUInt32).toInt32).toUInt32 >>> ((2 : Int32) &&& 31).toUInt32).toInt32).toUInt32 >>> ((1 : Int32) &&& 31).toUInt32).toInt32)), (.int (((1 : Int32) + (16 : Int32)) + (2 : Int32)))]))
            refine Go.step (fun _ k => XS.iadd X0.here hx rfl (hb hby d10_78) rfl k) ?_
            show Go _ _ _ _ (s₁.setTop (mkF m 79 #[.val (.int ((((y.toUInt32 >>> ((16 : Int32) &&& 31).toUInt32).toInt32).toUInt32 >>> ((2 : Int32) &&& 31).toUInt32).toInt32)), .val (.int (((1 : Int32) + (16 : Int32)) + (2 : Int32)))] [(.int ((((1 : Int32) + (16 : Int32)) + (2 : Int32)) + ((((((y.toUInt32 >>> ((16 : Int32) &&& 31).toUInt32).toInt32).toUInt32 >>> ((2 : Int32) &&& 31).toUInt32).toInt32).toUInt32 >>> ((1 : Int32) &&& 31).toUInt32).toInt32)))]))
            exact leafI X0 hx hret hlk (hb hby d10_79) ⟨by rw [own_t, if_pos hc1, if_pos hc2, if_neg hc3, if_neg hc7, if_pos hc9], e0, rfl⟩ (by decide) (by decide)
          · refine Go.step (fun _ k => XS.icmpYes X0.here hx rfl (pc0 := 64) (pc' := 74) rfl (hb hby d10_64) rfl (flt hc9).2.2.2 (by decide) (by decide) k) ?_
            show Go _ _ _ _ (s₁.setTop (mkF m 74 #[.val (.int ((y.toUInt32 >>> ((16 : Int32) &&& 31).toUInt32).toInt32)), .val (.int ((1 : Int32) + (16 : Int32)))] []))
            refine Go.step (fun _ k => XS.iloadN X0.here hx rfl (hb hby d10_74) rfl k) ?_
            show Go _ _ _ _ (s₁.setTop (mkF m 75 #[.val (.int ((y.toUInt32 >>> ((16 : Int32) &&& 31).toUInt32).toInt32)), .val (.int ((1 : Int32) + (16 : Int32)))] [(.int ((1 : Int32) + (16 : Int32)))]))
            refine Go.step (fun _ k => XS.iloadN X0.here hx rfl (hb hby d10_75) rfl k) ?_
            show Go _ _ _ _ (s₁.setTop (mkF m 76 #[.val (.int ((y.toUInt32 >>> ((16 : Int32) &&& 31).toUInt32).toInt32)), .val (.int ((1 : Int32) + (16 : Int32)))] [(.int ((y.toUInt32 >>> ((16 : Int32) &&& 31).toUInt32).toInt32)), (.int ((1 : Int32) + (16 : Int32)))]))
            refine Go.step (fun _ k => XS.iconst X0.here hx rfl (hb hby d10_76) k) ?_
            show Go _ _ _ _ (s₁.setTop (mkF m 77 #[.val (.int ((y.toUInt32 >>> ((16 : Int32) &&& 31).toUInt32).toInt32)), .val (.int ((1 : Int32) + (16 : Int32)))] [(.int (1 : Int32)), (.int ((y.toUInt32 >>> ((16 : Int32) &&& 31).toUInt32).toInt32)), (.int ((1 : Int32) + (16 : Int32)))]))
            refine Go.step (fun _ k => XS.iushr X0.here hx rfl (hb hby d10_77) rfl k) ?_
            show Go _ _ _ _ (s₁.setTop (mkF m 78 #[.val (.int ((y.toUInt32 >>> ((16 : Int32) &&& 31).toUInt32).toInt32)), .val (.int ((1 : Int32) + (16 : Int32)))] [(.int ((((y.toUInt32 >>> ((16 : Int32) &&& 31).toUInt32).toInt32).toUInt32 >>> ((1 : Int32) &&& 31).toUInt32).toInt32)), (.int ((1 : Int32) + (16 : Int32)))]))
            refine Go.step (fun _ k => XS.iadd X0.here hx rfl (hb hby d10_78) rfl k) ?_
            show Go _ _ _ _ (s₁.setTop (mkF m 79 #[.val (.int ((y.toUInt32 >>> ((16 : Int32) &&& 31).toUInt32).toInt32)), .val (.int ((1 : Int32) + (16 : Int32)))] [(.int (((1 : Int32) + (16 : Int32)) + ((((y.toUInt32 >>> ((16 : Int32) &&& 31).toUInt32).toInt32).toUInt32 >>> ((1 : Int32) &&& 31).toUInt32).toInt32)))]))
            exact leafI X0 hx hret hlk (hb hby d10_79) ⟨by rw [own_t, if_pos hc1, if_pos hc2, if_neg hc3, if_neg hc7, if_neg hc9], e0, rfl⟩ (by decide) (by decide)
    · refine Go.step (fun _ k => XS.icmpYes X0.here hx rfl (pc0 := 23) (pc' := 34) rfl (hb hby d10_23) rfl (flt hc2).2.2.2 (by decide) (by decide) k) ?_
      show Go _ _ _ _ (s₁.setTop (mkF m 34 #[.val (.int y), .val (.int (1 : Int32))] []))
      refine Go.step (fun _ k => XS.iloadN X0.here hx rfl (hb hby d10_34) rfl k) ?_
      show Go _ _ _ _ (s₁.setTop (mkF m 35 #[.val (.int y), .val (.int (1 : Int32))] [(.int y)]))
      refine Go.step (fun _ k => XS.sipush X0.here hx rfl (hb hby d10_35) k) ?_
      show Go _ _ _ _ (s₁.setTop (mkF m 38 #[.val (.int y), .val (.int (1 : Int32))] [(.int (256 : Int32)), (.int y)]))
      by_cases hc10 : (256 : Int32) < y
      · refine Go.step (fun _ k => XS.icmpNo X0.here hx rfl (hb hby d10_38) rfl (tlt hc10).2.2.2 k) ?_
        show Go _ _ _ _ (s₁.setTop (mkF m 41 #[.val (.int y), .val (.int (1 : Int32))] []))
        refine Go.step (fun _ k => XS.iinc X0.here hx rfl (hb hby d10_41) rfl (l' := #[.val (.int y), .val (.int ((1 : Int32) + (8 : Int32)))]) rfl k) ?_
        show Go _ _ _ _ (s₁.setTop (mkF m 44 #[.val (.int y), .val (.int ((1 : Int32) + (8 : Int32)))] []))
        refine Go.step (fun _ k => XS.iloadN X0.here hx rfl (hb hby d10_44) rfl k) ?_
        show Go _ _ _ _ (s₁.setTop (mkF m 45 #[.val (.int y), .val (.int ((1 : Int32) + (8 : Int32)))] [(.int y)]))
        refine Go.step (fun _ k => XS.bipush X0.here hx rfl (hb hby d10_45) k) ?_
        show Go _ _ _ _ (s₁.setTop (mkF m 47 #[.val (.int y), .val (.int ((1 : Int32) + (8 : Int32)))] [(.int (8 : Int32)), (.int y)]))
        refine Go.step (fun _ k => XS.iushr X0.here hx rfl (hb hby d10_47) rfl k) ?_
        show Go _ _ _ _ (s₁.setTop (mkF m 48 #[.val (.int y), .val (.int ((1 : Int32) + (8 : Int32)))] [(.int ((y.toUInt32 >>> ((8 : Int32) &&& 31).toUInt32).toInt32))]))
        refine Go.step (fun _ k => XS.istoreN X0.here hx rfl (hb hby d10_48) rfl (l' := #[.val (.int ((y.toUInt32 >>> ((8 : Int32) &&& 31).toUInt32).toInt32)), .val (.int ((1 : Int32) + (8 : Int32)))]) rfl k) ?_
        show Go _ _ _ _ (s₁.setTop (mkF m 49 #[.val (.int ((y.toUInt32 >>> ((8 : Int32) &&& 31).toUInt32).toInt32)), .val (.int ((1 : Int32) + (8 : Int32)))] []))
        refine Go.step (fun _ k => XS.iloadN X0.here hx rfl (hb hby d10_49) rfl k) ?_
        show Go _ _ _ _ (s₁.setTop (mkF m 50 #[.val (.int ((y.toUInt32 >>> ((8 : Int32) &&& 31).toUInt32).toInt32)), .val (.int ((1 : Int32) + (8 : Int32)))] [(.int ((y.toUInt32 >>> ((8 : Int32) &&& 31).toUInt32).toInt32))]))
        refine Go.step (fun _ k => XS.bipush X0.here hx rfl (hb hby d10_50) k) ?_
        show Go _ _ _ _ (s₁.setTop (mkF m 52 #[.val (.int ((y.toUInt32 >>> ((8 : Int32) &&& 31).toUInt32).toInt32)), .val (.int ((1 : Int32) + (8 : Int32)))] [(.int (16 : Int32)), (.int ((y.toUInt32 >>> ((8 : Int32) &&& 31).toUInt32).toInt32))]))
        by_cases hc11 : (16 : Int32) < ((y.toUInt32 >>> ((8 : Int32) &&& 31).toUInt32).toInt32)
        · refine Go.step (fun _ k => XS.icmpNo X0.here hx rfl (hb hby d10_52) rfl (tlt hc11).2.2.2 k) ?_
          show Go _ _ _ _ (s₁.setTop (mkF m 55 #[.val (.int ((y.toUInt32 >>> ((8 : Int32) &&& 31).toUInt32).toInt32)), .val (.int ((1 : Int32) + (8 : Int32)))] []))
          refine Go.step (fun _ k => XS.iinc X0.here hx rfl (hb hby d10_55) rfl (l' := #[.val (.int ((y.toUInt32 >>> ((8 : Int32) &&& 31).toUInt32).toInt32)), .val (.int (((1 : Int32) + (8 : Int32)) + (4 : Int32)))]) rfl k) ?_
          show Go _ _ _ _ (s₁.setTop (mkF m 58 #[.val (.int ((y.toUInt32 >>> ((8 : Int32) &&& 31).toUInt32).toInt32)), .val (.int (((1 : Int32) + (8 : Int32)) + (4 : Int32)))] []))
          refine Go.step (fun _ k => XS.iloadN X0.here hx rfl (hb hby d10_58) rfl k) ?_
          show Go _ _ _ _ (s₁.setTop (mkF m 59 #[.val (.int ((y.toUInt32 >>> ((8 : Int32) &&& 31).toUInt32).toInt32)), .val (.int (((1 : Int32) + (8 : Int32)) + (4 : Int32)))] [(.int ((y.toUInt32 >>> ((8 : Int32) &&& 31).toUInt32).toInt32))]))
          refine Go.step (fun _ k => XS.iconst X0.here hx rfl (hb hby d10_59) k) ?_
          show Go _ _ _ _ (s₁.setTop (mkF m 60 #[.val (.int ((y.toUInt32 >>> ((8 : Int32) &&& 31).toUInt32).toInt32)), .val (.int (((1 : Int32) + (8 : Int32)) + (4 : Int32)))] [(.int (4 : Int32)), (.int ((y.toUInt32 >>> ((8 : Int32) &&& 31).toUInt32).toInt32))]))
          refine Go.step (fun _ k => XS.iushr X0.here hx rfl (hb hby d10_60) rfl k) ?_
          show Go _ _ _ _ (s₁.setTop (mkF m 61 #[.val (.int ((y.toUInt32 >>> ((8 : Int32) &&& 31).toUInt32).toInt32)), .val (.int (((1 : Int32) + (8 : Int32)) + (4 : Int32)))] [(.int ((((y.toUInt32 >>> ((8 : Int32) &&& 31).toUInt32).toInt32).toUInt32 >>> ((4 : Int32) &&& 31).toUInt32).toInt32))]))
          refine Go.step (fun _ k => XS.istoreN X0.here hx rfl (hb hby d10_61) rfl (l' := #[.val (.int ((((y.toUInt32 >>> ((8 : Int32) &&& 31).toUInt32).toInt32).toUInt32 >>> ((4 : Int32) &&& 31).toUInt32).toInt32)), .val (.int (((1 : Int32) + (8 : Int32)) + (4 : Int32)))]) rfl k) ?_
          show Go _ _ _ _ (s₁.setTop (mkF m 62 #[.val (.int ((((y.toUInt32 >>> ((8 : Int32) &&& 31).toUInt32).toInt32).toUInt32 >>> ((4 : Int32) &&& 31).toUInt32).toInt32)), .val (.int (((1 : Int32) + (8 : Int32)) + (4 : Int32)))] []))
          refine Go.step (fun _ k => XS.iloadN X0.here hx rfl (hb hby d10_62) rfl k) ?_
          show Go _ _ _ _ (s₁.setTop (mkF m 63 #[.val (.int ((((y.toUInt32 >>> ((8 : Int32) &&& 31).toUInt32).toInt32).toUInt32 >>> ((4 : Int32) &&& 31).toUInt32).toInt32)), .val (.int (((1 : Int32) + (8 : Int32)) + (4 : Int32)))] [(.int ((((y.toUInt32 >>> ((8 : Int32) &&& 31).toUInt32).toInt32).toUInt32 >>> ((4 : Int32) &&& 31).toUInt32).toInt32))]))
          refine Go.step (fun _ k => XS.iconst X0.here hx rfl (hb hby d10_63) k) ?_
          show Go _ _ _ _ (s₁.setTop (mkF m 64 #[.val (.int ((((y.toUInt32 >>> ((8 : Int32) &&& 31).toUInt32).toInt32).toUInt32 >>> ((4 : Int32) &&& 31).toUInt32).toInt32)), .val (.int (((1 : Int32) + (8 : Int32)) + (4 : Int32)))] [(.int (4 : Int32)), (.int ((((y.toUInt32 >>> ((8 : Int32) &&& 31).toUInt32).toInt32).toUInt32 >>> ((4 : Int32) &&& 31).toUInt32).toInt32))]))
          by_cases hc12 : (4 : Int32) < ((((y.toUInt32 >>> ((8 : Int32) &&& 31).toUInt32).toInt32).toUInt32 >>> ((4 : Int32) &&& 31).toUInt32).toInt32)
          · refine Go.step (fun _ k => XS.icmpNo X0.here hx rfl (hb hby d10_64) rfl (tlt hc12).2.2.2 k) ?_
            show Go _ _ _ _ (s₁.setTop (mkF m 67 #[.val (.int ((((y.toUInt32 >>> ((8 : Int32) &&& 31).toUInt32).toInt32).toUInt32 >>> ((4 : Int32) &&& 31).toUInt32).toInt32)), .val (.int (((1 : Int32) + (8 : Int32)) + (4 : Int32)))] []))
            refine Go.step (fun _ k => XS.iinc X0.here hx rfl (hb hby d10_67) rfl (l' := #[.val (.int ((((y.toUInt32 >>> ((8 : Int32) &&& 31).toUInt32).toInt32).toUInt32 >>> ((4 : Int32) &&& 31).toUInt32).toInt32)), .val (.int ((((1 : Int32) + (8 : Int32)) + (4 : Int32)) + (2 : Int32)))]) rfl k) ?_
            show Go _ _ _ _ (s₁.setTop (mkF m 70 #[.val (.int ((((y.toUInt32 >>> ((8 : Int32) &&& 31).toUInt32).toInt32).toUInt32 >>> ((4 : Int32) &&& 31).toUInt32).toInt32)), .val (.int ((((1 : Int32) + (8 : Int32)) + (4 : Int32)) + (2 : Int32)))] []))
            refine Go.step (fun _ k => XS.iloadN X0.here hx rfl (hb hby d10_70) rfl k) ?_
            show Go _ _ _ _ (s₁.setTop (mkF m 71 #[.val (.int ((((y.toUInt32 >>> ((8 : Int32) &&& 31).toUInt32).toInt32).toUInt32 >>> ((4 : Int32) &&& 31).toUInt32).toInt32)), .val (.int ((((1 : Int32) + (8 : Int32)) + (4 : Int32)) + (2 : Int32)))] [(.int ((((y.toUInt32 >>> ((8 : Int32) &&& 31).toUInt32).toInt32).toUInt32 >>> ((4 : Int32) &&& 31).toUInt32).toInt32))]))
            refine Go.step (fun _ k => XS.iconst X0.here hx rfl (hb hby d10_71) k) ?_
            show Go _ _ _ _ (s₁.setTop (mkF m 72 #[.val (.int ((((y.toUInt32 >>> ((8 : Int32) &&& 31).toUInt32).toInt32).toUInt32 >>> ((4 : Int32) &&& 31).toUInt32).toInt32)), .val (.int ((((1 : Int32) + (8 : Int32)) + (4 : Int32)) + (2 : Int32)))] [(.int (2 : Int32)), (.int ((((y.toUInt32 >>> ((8 : Int32) &&& 31).toUInt32).toInt32).toUInt32 >>> ((4 : Int32) &&& 31).toUInt32).toInt32))]))
            refine Go.step (fun _ k => XS.iushr X0.here hx rfl (hb hby d10_72) rfl k) ?_
            show Go _ _ _ _ (s₁.setTop (mkF m 73 #[.val (.int ((((y.toUInt32 >>> ((8 : Int32) &&& 31).toUInt32).toInt32).toUInt32 >>> ((4 : Int32) &&& 31).toUInt32).toInt32)), .val (.int ((((1 : Int32) + (8 : Int32)) + (4 : Int32)) + (2 : Int32)))] [(.int ((((((y.toUInt32 >>> ((8 : Int32) &&& 31).toUInt32).toInt32).toUInt32 >>> ((4 : Int32) &&& 31).toUInt32).toInt32).toUInt32 >>> ((2 : Int32) &&& 31).toUInt32).toInt32))]))
            refine Go.step (fun _ k => XS.istoreN X0.here hx rfl (hb hby d10_73) rfl (l' := #[.val (.int ((((((y.toUInt32 >>> ((8 : Int32) &&& 31).toUInt32).toInt32).toUInt32 >>> ((4 : Int32) &&& 31).toUInt32).toInt32).toUInt32 >>> ((2 : Int32) &&& 31).toUInt32).toInt32)), .val (.int ((((1 : Int32) + (8 : Int32)) + (4 : Int32)) + (2 : Int32)))]) rfl k) ?_
            show Go _ _ _ _ (s₁.setTop (mkF m 74 #[.val (.int ((((((y.toUInt32 >>> ((8 : Int32) &&& 31).toUInt32).toInt32).toUInt32 >>> ((4 : Int32) &&& 31).toUInt32).toInt32).toUInt32 >>> ((2 : Int32) &&& 31).toUInt32).toInt32)), .val (.int ((((1 : Int32) + (8 : Int32)) + (4 : Int32)) + (2 : Int32)))] []))
            refine Go.step (fun _ k => XS.iloadN X0.here hx rfl (hb hby d10_74) rfl k) ?_
            show Go _ _ _ _ (s₁.setTop (mkF m 75 #[.val (.int ((((((y.toUInt32 >>> ((8 : Int32) &&& 31).toUInt32).toInt32).toUInt32 >>> ((4 : Int32) &&& 31).toUInt32).toInt32).toUInt32 >>> ((2 : Int32) &&& 31).toUInt32).toInt32)), .val (.int ((((1 : Int32) + (8 : Int32)) + (4 : Int32)) + (2 : Int32)))] [(.int ((((1 : Int32) + (8 : Int32)) + (4 : Int32)) + (2 : Int32)))]))
            refine Go.step (fun _ k => XS.iloadN X0.here hx rfl (hb hby d10_75) rfl k) ?_
            show Go _ _ _ _ (s₁.setTop (mkF m 76 #[.val (.int ((((((y.toUInt32 >>> ((8 : Int32) &&& 31).toUInt32).toInt32).toUInt32 >>> ((4 : Int32) &&& 31).toUInt32).toInt32).toUInt32 >>> ((2 : Int32) &&& 31).toUInt32).toInt32)), .val (.int ((((1 : Int32) + (8 : Int32)) + (4 : Int32)) + (2 : Int32)))] [(.int ((((((y.toUInt32 >>> ((8 : Int32) &&& 31).toUInt32).toInt32).toUInt32 >>> ((4 : Int32) &&& 31).toUInt32).toInt32).toUInt32 >>> ((2 : Int32) &&& 31).toUInt32).toInt32)), (.int ((((1 : Int32) + (8 : Int32)) + (4 : Int32)) + (2 : Int32)))]))
            refine Go.step (fun _ k => XS.iconst X0.here hx rfl (hb hby d10_76) k) ?_
            show Go _ _ _ _ (s₁.setTop (mkF m 77 #[.val (.int ((((((y.toUInt32 >>> ((8 : Int32) &&& 31).toUInt32).toInt32).toUInt32 >>> ((4 : Int32) &&& 31).toUInt32).toInt32).toUInt32 >>> ((2 : Int32) &&& 31).toUInt32).toInt32)), .val (.int ((((1 : Int32) + (8 : Int32)) + (4 : Int32)) + (2 : Int32)))] [(.int (1 : Int32)), (.int ((((((y.toUInt32 >>> ((8 : Int32) &&& 31).toUInt32).toInt32).toUInt32 >>> ((4 : Int32) &&& 31).toUInt32).toInt32).toUInt32 >>> ((2 : Int32) &&& 31).toUInt32).toInt32)), (.int ((((1 : Int32) + (8 : Int32)) + (4 : Int32)) + (2 : Int32)))]))
            refine Go.step (fun _ k => XS.iushr X0.here hx rfl (hb hby d10_77) rfl k) ?_
            show Go _ _ _ _ (s₁.setTop (mkF m 78 #[.val (.int ((((((y.toUInt32 >>> ((8 : Int32) &&& 31).toUInt32).toInt32).toUInt32 >>> ((4 : Int32) &&& 31).toUInt32).toInt32).toUInt32 >>> ((2 : Int32) &&& 31).toUInt32).toInt32)), .val (.int ((((1 : Int32) + (8 : Int32)) + (4 : Int32)) + (2 : Int32)))] [(.int ((((((((y.toUInt32 >>> ((8 : Int32) &&& 31).toUInt32).toInt32).toUInt32 >>> ((4 : Int32) &&& 31).toUInt32).toInt32).toUInt32 >>> ((2 : Int32) &&& 31).toUInt32).toInt32).toUInt32 >>> ((1 : Int32) &&& 31).toUInt32).toInt32)), (.int ((((1 : Int32) + (8 : Int32)) + (4 : Int32)) + (2 : Int32)))]))
            refine Go.step (fun _ k => XS.iadd X0.here hx rfl (hb hby d10_78) rfl k) ?_
            show Go _ _ _ _ (s₁.setTop (mkF m 79 #[.val (.int ((((((y.toUInt32 >>> ((8 : Int32) &&& 31).toUInt32).toInt32).toUInt32 >>> ((4 : Int32) &&& 31).toUInt32).toInt32).toUInt32 >>> ((2 : Int32) &&& 31).toUInt32).toInt32)), .val (.int ((((1 : Int32) + (8 : Int32)) + (4 : Int32)) + (2 : Int32)))] [(.int (((((1 : Int32) + (8 : Int32)) + (4 : Int32)) + (2 : Int32)) + ((((((((y.toUInt32 >>> ((8 : Int32) &&& 31).toUInt32).toInt32).toUInt32 >>> ((4 : Int32) &&& 31).toUInt32).toInt32).toUInt32 >>> ((2 : Int32) &&& 31).toUInt32).toInt32).toUInt32 >>> ((1 : Int32) &&& 31).toUInt32).toInt32)))]))
            exact leafI X0 hx hret hlk (hb hby d10_79) ⟨by rw [own_t, if_pos hc1, if_neg hc2, if_pos hc10, if_pos hc11, if_pos hc12], e0, rfl⟩ (by decide) (by decide)
          · refine Go.step (fun _ k => XS.icmpYes X0.here hx rfl (pc0 := 64) (pc' := 74) rfl (hb hby d10_64) rfl (flt hc12).2.2.2 (by decide) (by decide) k) ?_
            show Go _ _ _ _ (s₁.setTop (mkF m 74 #[.val (.int ((((y.toUInt32 >>> ((8 : Int32) &&& 31).toUInt32).toInt32).toUInt32 >>> ((4 : Int32) &&& 31).toUInt32).toInt32)), .val (.int (((1 : Int32) + (8 : Int32)) + (4 : Int32)))] []))
            refine Go.step (fun _ k => XS.iloadN X0.here hx rfl (hb hby d10_74) rfl k) ?_
            show Go _ _ _ _ (s₁.setTop (mkF m 75 #[.val (.int ((((y.toUInt32 >>> ((8 : Int32) &&& 31).toUInt32).toInt32).toUInt32 >>> ((4 : Int32) &&& 31).toUInt32).toInt32)), .val (.int (((1 : Int32) + (8 : Int32)) + (4 : Int32)))] [(.int (((1 : Int32) + (8 : Int32)) + (4 : Int32)))]))
            refine Go.step (fun _ k => XS.iloadN X0.here hx rfl (hb hby d10_75) rfl k) ?_
            show Go _ _ _ _ (s₁.setTop (mkF m 76 #[.val (.int ((((y.toUInt32 >>> ((8 : Int32) &&& 31).toUInt32).toInt32).toUInt32 >>> ((4 : Int32) &&& 31).toUInt32).toInt32)), .val (.int (((1 : Int32) + (8 : Int32)) + (4 : Int32)))] [(.int ((((y.toUInt32 >>> ((8 : Int32) &&& 31).toUInt32).toInt32).toUInt32 >>> ((4 : Int32) &&& 31).toUInt32).toInt32)), (.int (((1 : Int32) + (8 : Int32)) + (4 : Int32)))]))
            refine Go.step (fun _ k => XS.iconst X0.here hx rfl (hb hby d10_76) k) ?_
            show Go _ _ _ _ (s₁.setTop (mkF m 77 #[.val (.int ((((y.toUInt32 >>> ((8 : Int32) &&& 31).toUInt32).toInt32).toUInt32 >>> ((4 : Int32) &&& 31).toUInt32).toInt32)), .val (.int (((1 : Int32) + (8 : Int32)) + (4 : Int32)))] [(.int (1 : Int32)), (.int ((((y.toUInt32 >>> ((8 : Int32) &&& 31).toUInt32).toInt32).toUInt32 >>> ((4 : Int32) &&& 31).toUInt32).toInt32)), (.int (((1 : Int32) + (8 : Int32)) + (4 : Int32)))]))
            refine Go.step (fun _ k => XS.iushr X0.here hx rfl (hb hby d10_77) rfl k) ?_
            show Go _ _ _ _ (s₁.setTop (mkF m 78 #[.val (.int ((((y.toUInt32 >>> ((8 : Int32) &&& 31).toUInt32).toInt32).toUInt32 >>> ((4 : Int32) &&& 31).toUInt32).toInt32)), .val (.int (((1 : Int32) + (8 : Int32)) + (4 : Int32)))] [(.int ((((((y.toUInt32 >>> ((8 : Int32) &&& 31).toUInt32).toInt32).toUInt32 >>> ((4 : Int32) &&& 31).toUInt32).toInt32).toUInt32 >>> ((1 : Int32) &&& 31).toUInt32).toInt32)), (.int (((1 : Int32) + (8 : Int32)) + (4 : Int32)))]))
            refine Go.step (fun _ k => XS.iadd X0.here hx rfl (hb hby d10_78) rfl k) ?_
            show Go _ _ _ _ (s₁.setTop (mkF m 79 #[.val (.int ((((y.toUInt32 >>> ((8 : Int32) &&& 31).toUInt32).toInt32).toUInt32 >>> ((4 : Int32) &&& 31).toUInt32).toInt32)), .val (.int (((1 : Int32) + (8 : Int32)) + (4 : Int32)))] [(.int ((((1 : Int32) + (8 : Int32)) + (4 : Int32)) + ((((((y.toUInt32 >>> ((8 : Int32) &&& 31).toUInt32).toInt32).toUInt32 >>> ((4 : Int32) &&& 31).toUInt32).toInt32).toUInt32 >>> ((1 : Int32) &&& 31).toUInt32).toInt32)))]))
            exact leafI X0 hx hret hlk (hb hby d10_79) ⟨by rw [own_t, if_pos hc1, if_neg hc2, if_pos hc10, if_pos hc11, if_neg hc12], e0, rfl⟩ (by decide) (by decide)
        · refine Go.step (fun _ k => XS.icmpYes X0.here hx rfl (pc0 := 52) (pc' := 62) rfl (hb hby d10_52) rfl (flt hc11).2.2.2 (by decide) (by decide) k) ?_
          show Go _ _ _ _ (s₁.setTop (mkF m 62 #[.val (.int ((y.toUInt32 >>> ((8 : Int32) &&& 31).toUInt32).toInt32)), .val (.int ((1 : Int32) + (8 : Int32)))] []))
          refine Go.step (fun _ k => XS.iloadN X0.here hx rfl (hb hby d10_62) rfl k) ?_
          show Go _ _ _ _ (s₁.setTop (mkF m 63 #[.val (.int ((y.toUInt32 >>> ((8 : Int32) &&& 31).toUInt32).toInt32)), .val (.int ((1 : Int32) + (8 : Int32)))] [(.int ((y.toUInt32 >>> ((8 : Int32) &&& 31).toUInt32).toInt32))]))
          refine Go.step (fun _ k => XS.iconst X0.here hx rfl (hb hby d10_63) k) ?_
          show Go _ _ _ _ (s₁.setTop (mkF m 64 #[.val (.int ((y.toUInt32 >>> ((8 : Int32) &&& 31).toUInt32).toInt32)), .val (.int ((1 : Int32) + (8 : Int32)))] [(.int (4 : Int32)), (.int ((y.toUInt32 >>> ((8 : Int32) &&& 31).toUInt32).toInt32))]))
          by_cases hc13 : (4 : Int32) < ((y.toUInt32 >>> ((8 : Int32) &&& 31).toUInt32).toInt32)
          · refine Go.step (fun _ k => XS.icmpNo X0.here hx rfl (hb hby d10_64) rfl (tlt hc13).2.2.2 k) ?_
            show Go _ _ _ _ (s₁.setTop (mkF m 67 #[.val (.int ((y.toUInt32 >>> ((8 : Int32) &&& 31).toUInt32).toInt32)), .val (.int ((1 : Int32) + (8 : Int32)))] []))
            refine Go.step (fun _ k => XS.iinc X0.here hx rfl (hb hby d10_67) rfl (l' := #[.val (.int ((y.toUInt32 >>> ((8 : Int32) &&& 31).toUInt32).toInt32)), .val (.int (((1 : Int32) + (8 : Int32)) + (2 : Int32)))]) rfl k) ?_
            show Go _ _ _ _ (s₁.setTop (mkF m 70 #[.val (.int ((y.toUInt32 >>> ((8 : Int32) &&& 31).toUInt32).toInt32)), .val (.int (((1 : Int32) + (8 : Int32)) + (2 : Int32)))] []))
            refine Go.step (fun _ k => XS.iloadN X0.here hx rfl (hb hby d10_70) rfl k) ?_
            show Go _ _ _ _ (s₁.setTop (mkF m 71 #[.val (.int ((y.toUInt32 >>> ((8 : Int32) &&& 31).toUInt32).toInt32)), .val (.int (((1 : Int32) + (8 : Int32)) + (2 : Int32)))] [(.int ((y.toUInt32 >>> ((8 : Int32) &&& 31).toUInt32).toInt32))]))
            refine Go.step (fun _ k => XS.iconst X0.here hx rfl (hb hby d10_71) k) ?_
            show Go _ _ _ _ (s₁.setTop (mkF m 72 #[.val (.int ((y.toUInt32 >>> ((8 : Int32) &&& 31).toUInt32).toInt32)), .val (.int (((1 : Int32) + (8 : Int32)) + (2 : Int32)))] [(.int (2 : Int32)), (.int ((y.toUInt32 >>> ((8 : Int32) &&& 31).toUInt32).toInt32))]))
            refine Go.step (fun _ k => XS.iushr X0.here hx rfl (hb hby d10_72) rfl k) ?_
            show Go _ _ _ _ (s₁.setTop (mkF m 73 #[.val (.int ((y.toUInt32 >>> ((8 : Int32) &&& 31).toUInt32).toInt32)), .val (.int (((1 : Int32) + (8 : Int32)) + (2 : Int32)))] [(.int ((((y.toUInt32 >>> ((8 : Int32) &&& 31).toUInt32).toInt32).toUInt32 >>> ((2 : Int32) &&& 31).toUInt32).toInt32))]))
            refine Go.step (fun _ k => XS.istoreN X0.here hx rfl (hb hby d10_73) rfl (l' := #[.val (.int ((((y.toUInt32 >>> ((8 : Int32) &&& 31).toUInt32).toInt32).toUInt32 >>> ((2 : Int32) &&& 31).toUInt32).toInt32)), .val (.int (((1 : Int32) + (8 : Int32)) + (2 : Int32)))]) rfl k) ?_
            show Go _ _ _ _ (s₁.setTop (mkF m 74 #[.val (.int ((((y.toUInt32 >>> ((8 : Int32) &&& 31).toUInt32).toInt32).toUInt32 >>> ((2 : Int32) &&& 31).toUInt32).toInt32)), .val (.int (((1 : Int32) + (8 : Int32)) + (2 : Int32)))] []))
            refine Go.step (fun _ k => XS.iloadN X0.here hx rfl (hb hby d10_74) rfl k) ?_
            show Go _ _ _ _ (s₁.setTop (mkF m 75 #[.val (.int ((((y.toUInt32 >>> ((8 : Int32) &&& 31).toUInt32).toInt32).toUInt32 >>> ((2 : Int32) &&& 31).toUInt32).toInt32)), .val (.int (((1 : Int32) + (8 : Int32)) + (2 : Int32)))] [(.int (((1 : Int32) + (8 : Int32)) + (2 : Int32)))]))
            refine Go.step (fun _ k => XS.iloadN X0.here hx rfl (hb hby d10_75) rfl k) ?_
            show Go _ _ _ _ (s₁.setTop (mkF m 76 #[.val (.int ((((y.toUInt32 >>> ((8 : Int32) &&& 31).toUInt32).toInt32).toUInt32 >>> ((2 : Int32) &&& 31).toUInt32).toInt32)), .val (.int (((1 : Int32) + (8 : Int32)) + (2 : Int32)))] [(.int ((((y.toUInt32 >>> ((8 : Int32) &&& 31).toUInt32).toInt32).toUInt32 >>> ((2 : Int32) &&& 31).toUInt32).toInt32)), (.int (((1 : Int32) + (8 : Int32)) + (2 : Int32)))]))
            refine Go.step (fun _ k => XS.iconst X0.here hx rfl (hb hby d10_76) k) ?_
            show Go _ _ _ _ (s₁.setTop (mkF m 77 #[.val (.int ((((y.toUInt32 >>> ((8 : Int32) &&& 31).toUInt32).toInt32).toUInt32 >>> ((2 : Int32) &&& 31).toUInt32).toInt32)), .val (.int (((1 : Int32) + (8 : Int32)) + (2 : Int32)))] [(.int (1 : Int32)), (.int ((((y.toUInt32 >>> ((8 : Int32) &&& 31).toUInt32).toInt32).toUInt32 >>> ((2 : Int32) &&& 31).toUInt32).toInt32)), (.int (((1 : Int32) + (8 : Int32)) + (2 : Int32)))]))
            refine Go.step (fun _ k => XS.iushr X0.here hx rfl (hb hby d10_77) rfl k) ?_
            show Go _ _ _ _ (s₁.setTop (mkF m 78 #[.val (.int ((((y.toUInt32 >>> ((8 : Int32) &&& 31).toUInt32).toInt32).toUInt32 >>> ((2 : Int32) &&& 31).toUInt32).toInt32)), .val (.int (((1 : Int32) + (8 : Int32)) + (2 : Int32)))] [(.int ((((((y.toUInt32 >>> ((8 : Int32) &&& 31).toUInt32).toInt32).toUInt32 >>> ((2 : Int32) &&& 31).toUInt32).toInt32).toUInt32 >>> ((1 : Int32) &&& 31).toUInt32).toInt32)), (.int (((1 : Int32) + (8 : Int32)) + (2 : Int32)))]))
            refine Go.step (fun _ k => XS.iadd X0.here hx rfl (hb hby d10_78) rfl k) ?_
            show Go _ _ _ _ (s₁.setTop (mkF m 79 #[.val (.int ((((y.toUInt32 >>> ((8 : Int32) &&& 31).toUInt32).toInt32).toUInt32 >>> ((2 : Int32) &&& 31).toUInt32).toInt32)), .val (.int (((1 : Int32) + (8 : Int32)) + (2 : Int32)))] [(.int ((((1 : Int32) + (8 : Int32)) + (2 : Int32)) + ((((((y.toUInt32 >>> ((8 : Int32) &&& 31).toUInt32).toInt32).toUInt32 >>> ((2 : Int32) &&& 31).toUInt32).toInt32).toUInt32 >>> ((1 : Int32) &&& 31).toUInt32).toInt32)))]))
            exact leafI X0 hx hret hlk (hb hby d10_79) ⟨by rw [own_t, if_pos hc1, if_neg hc2, if_pos hc10, if_neg hc11, if_pos hc13], e0, rfl⟩ (by decide) (by decide)
          · refine Go.step (fun _ k => XS.icmpYes X0.here hx rfl (pc0 := 64) (pc' := 74) rfl (hb hby d10_64) rfl (flt hc13).2.2.2 (by decide) (by decide) k) ?_
            show Go _ _ _ _ (s₁.setTop (mkF m 74 #[.val (.int ((y.toUInt32 >>> ((8 : Int32) &&& 31).toUInt32).toInt32)), .val (.int ((1 : Int32) + (8 : Int32)))] []))
            refine Go.step (fun _ k => XS.iloadN X0.here hx rfl (hb hby d10_74) rfl k) ?_
            show Go _ _ _ _ (s₁.setTop (mkF m 75 #[.val (.int ((y.toUInt32 >>> ((8 : Int32) &&& 31).toUInt32).toInt32)), .val (.int ((1 : Int32) + (8 : Int32)))] [(.int ((1 : Int32) + (8 : Int32)))]))
            refine Go.step (fun _ k => XS.iloadN X0.here hx rfl (hb hby d10_75) rfl k) ?_
            show Go _ _ _ _ (s₁.setTop (mkF m 76 #[.val (.int ((y.toUInt32 >>> ((8 : Int32) &&& 31).toUInt32).toInt32)), .val (.int ((1 : Int32) + (8 : Int32)))] [(.int ((y.toUInt32 >>> ((8 : Int32) &&& 31).toUInt32).toInt32)), (.int ((1 : Int32) + (8 : Int32)))]))
            refine Go.step (fun _ k => XS.iconst X0.here hx rfl (hb hby d10_76) k) ?_
            show Go _ _ _ _ (s₁.setTop (mkF m 77 #[.val (.int ((y.toUInt32 >>> ((8 : Int32) &&& 31).toUInt32).toInt32)), .val (.int ((1 : Int32) + (8 : Int32)))] [(.int (1 : Int32)), (.int ((y.toUInt32 >>> ((8 : Int32) &&& 31).toUInt32).toInt32)), (.int ((1 : Int32) + (8 : Int32)))]))
            refine Go.step (fun _ k => XS.iushr X0.here hx rfl (hb hby d10_77) rfl k) ?_
            show Go _ _ _ _ (s₁.setTop (mkF m 78 #[.val (.int ((y.toUInt32 >>> ((8 : Int32) &&& 31).toUInt32).toInt32)), .val (.int ((1 : Int32) + (8 : Int32)))] [(.int ((((y.toUInt32 >>> ((8 : Int32) &&& 31).toUInt32).toInt32).toUInt32 >>> ((1 : Int32) &&& 31).toUInt32).toInt32)), (.int ((1 : Int32) + (8 : Int32)))]))
            refine Go.step (fun _ k => XS.iadd X0.here hx rfl (hb hby d10_78) rfl k) ?_
            show Go _ _ _ _ (s₁.setTop (mkF m 79 #[.val (.int ((y.toUInt32 >>> ((8 : Int32) &&& 31).toUInt32).toInt32)), .val (.int ((1 : Int32) + (8 : Int32)))] [(.int (((1 : Int32) + (8 : Int32)) + ((((y.toUInt32 >>> ((8 : Int32) &&& 31).toUInt32).toInt32).toUInt32 >>> ((1 : Int32) &&& 31).toUInt32).toInt32)))]))
            exact leafI X0 hx hret hlk (hb hby d10_79) ⟨by rw [own_t, if_pos hc1, if_neg hc2, if_pos hc10, if_neg hc11, if_neg hc13], e0, rfl⟩ (by decide) (by decide)
      · refine Go.step (fun _ k => XS.icmpYes X0.here hx rfl (pc0 := 38) (pc' := 49) rfl (hb hby d10_38) rfl (flt hc10).2.2.2 (by decide) (by decide) k) ?_
        show Go _ _ _ _ (s₁.setTop (mkF m 49 #[.val (.int y), .val (.int (1 : Int32))] []))
        refine Go.step (fun _ k => XS.iloadN X0.here hx rfl (hb hby d10_49) rfl k) ?_
        show Go _ _ _ _ (s₁.setTop (mkF m 50 #[.val (.int y), .val (.int (1 : Int32))] [(.int y)]))
        refine Go.step (fun _ k => XS.bipush X0.here hx rfl (hb hby d10_50) k) ?_
        show Go _ _ _ _ (s₁.setTop (mkF m 52 #[.val (.int y), .val (.int (1 : Int32))] [(.int (16 : Int32)), (.int y)]))
        by_cases hc14 : (16 : Int32) < y
        · refine Go.step (fun _ k => XS.icmpNo X0.here hx rfl (hb hby d10_52) rfl (tlt hc14).2.2.2 k) ?_
          show Go _ _ _ _ (s₁.setTop (mkF m 55 #[.val (.int y), .val (.int (1 : Int32))] []))
          refine Go.step (fun _ k => XS.iinc X0.here hx rfl (hb hby d10_55) rfl (l' := #[.val (.int y), .val (.int ((1 : Int32) + (4 : Int32)))]) rfl k) ?_
          show Go _ _ _ _ (s₁.setTop (mkF m 58 #[.val (.int y), .val (.int ((1 : Int32) + (4 : Int32)))] []))
          refine Go.step (fun _ k => XS.iloadN X0.here hx rfl (hb hby d10_58) rfl k) ?_
          show Go _ _ _ _ (s₁.setTop (mkF m 59 #[.val (.int y), .val (.int ((1 : Int32) + (4 : Int32)))] [(.int y)]))
          refine Go.step (fun _ k => XS.iconst X0.here hx rfl (hb hby d10_59) k) ?_
          show Go _ _ _ _ (s₁.setTop (mkF m 60 #[.val (.int y), .val (.int ((1 : Int32) + (4 : Int32)))] [(.int (4 : Int32)), (.int y)]))
          refine Go.step (fun _ k => XS.iushr X0.here hx rfl (hb hby d10_60) rfl k) ?_
          show Go _ _ _ _ (s₁.setTop (mkF m 61 #[.val (.int y), .val (.int ((1 : Int32) + (4 : Int32)))] [(.int ((y.toUInt32 >>> ((4 : Int32) &&& 31).toUInt32).toInt32))]))
          refine Go.step (fun _ k => XS.istoreN X0.here hx rfl (hb hby d10_61) rfl (l' := #[.val (.int ((y.toUInt32 >>> ((4 : Int32) &&& 31).toUInt32).toInt32)), .val (.int ((1 : Int32) + (4 : Int32)))]) rfl k) ?_
          show Go _ _ _ _ (s₁.setTop (mkF m 62 #[.val (.int ((y.toUInt32 >>> ((4 : Int32) &&& 31).toUInt32).toInt32)), .val (.int ((1 : Int32) + (4 : Int32)))] []))
          refine Go.step (fun _ k => XS.iloadN X0.here hx rfl (hb hby d10_62) rfl k) ?_
          show Go _ _ _ _ (s₁.setTop (mkF m 63 #[.val (.int ((y.toUInt32 >>> ((4 : Int32) &&& 31).toUInt32).toInt32)), .val (.int ((1 : Int32) + (4 : Int32)))] [(.int ((y.toUInt32 >>> ((4 : Int32) &&& 31).toUInt32).toInt32))]))
          refine Go.step (fun _ k => XS.iconst X0.here hx rfl (hb hby d10_63) k) ?_
          show Go _ _ _ _ (s₁.setTop (mkF m 64 #[.val (.int ((y.toUInt32 >>> ((4 : Int32) &&& 31).toUInt32).toInt32)), .val (.int ((1 : Int32) + (4 : Int32)))] [(.int (4 : Int32)), (.int ((y.toUInt32 >>> ((4 : Int32) &&& 31).toUInt32).toInt32))]))
          by_cases hc15 : (4 : Int32) < ((y.toUInt32 >>> ((4 : Int32) &&& 31).toUInt32).toInt32)
          · refine Go.step (fun _ k => XS.icmpNo X0.here hx rfl (hb hby d10_64) rfl (tlt hc15).2.2.2 k) ?_
            show Go _ _ _ _ (s₁.setTop (mkF m 67 #[.val (.int ((y.toUInt32 >>> ((4 : Int32) &&& 31).toUInt32).toInt32)), .val (.int ((1 : Int32) + (4 : Int32)))] []))
            refine Go.step (fun _ k => XS.iinc X0.here hx rfl (hb hby d10_67) rfl (l' := #[.val (.int ((y.toUInt32 >>> ((4 : Int32) &&& 31).toUInt32).toInt32)), .val (.int (((1 : Int32) + (4 : Int32)) + (2 : Int32)))]) rfl k) ?_
            show Go _ _ _ _ (s₁.setTop (mkF m 70 #[.val (.int ((y.toUInt32 >>> ((4 : Int32) &&& 31).toUInt32).toInt32)), .val (.int (((1 : Int32) + (4 : Int32)) + (2 : Int32)))] []))
            refine Go.step (fun _ k => XS.iloadN X0.here hx rfl (hb hby d10_70) rfl k) ?_
            show Go _ _ _ _ (s₁.setTop (mkF m 71 #[.val (.int ((y.toUInt32 >>> ((4 : Int32) &&& 31).toUInt32).toInt32)), .val (.int (((1 : Int32) + (4 : Int32)) + (2 : Int32)))] [(.int ((y.toUInt32 >>> ((4 : Int32) &&& 31).toUInt32).toInt32))]))
            refine Go.step (fun _ k => XS.iconst X0.here hx rfl (hb hby d10_71) k) ?_
            show Go _ _ _ _ (s₁.setTop (mkF m 72 #[.val (.int ((y.toUInt32 >>> ((4 : Int32) &&& 31).toUInt32).toInt32)), .val (.int (((1 : Int32) + (4 : Int32)) + (2 : Int32)))] [(.int (2 : Int32)), (.int ((y.toUInt32 >>> ((4 : Int32) &&& 31).toUInt32).toInt32))]))
            refine Go.step (fun _ k => XS.iushr X0.here hx rfl (hb hby d10_72) rfl k) ?_
            show Go _ _ _ _ (s₁.setTop (mkF m 73 #[.val (.int ((y.toUInt32 >>> ((4 : Int32) &&& 31).toUInt32).toInt32)), .val (.int (((1 : Int32) + (4 : Int32)) + (2 : Int32)))] [(.int ((((y.toUInt32 >>> ((4 : Int32) &&& 31).toUInt32).toInt32).toUInt32 >>> ((2 : Int32) &&& 31).toUInt32).toInt32))]))
            refine Go.step (fun _ k => XS.istoreN X0.here hx rfl (hb hby d10_73) rfl (l' := #[.val (.int ((((y.toUInt32 >>> ((4 : Int32) &&& 31).toUInt32).toInt32).toUInt32 >>> ((2 : Int32) &&& 31).toUInt32).toInt32)), .val (.int (((1 : Int32) + (4 : Int32)) + (2 : Int32)))]) rfl k) ?_
            show Go _ _ _ _ (s₁.setTop (mkF m 74 #[.val (.int ((((y.toUInt32 >>> ((4 : Int32) &&& 31).toUInt32).toInt32).toUInt32 >>> ((2 : Int32) &&& 31).toUInt32).toInt32)), .val (.int (((1 : Int32) + (4 : Int32)) + (2 : Int32)))] []))
            refine Go.step (fun _ k => XS.iloadN X0.here hx rfl (hb hby d10_74) rfl k) ?_
            show Go _ _ _ _ (s₁.setTop (mkF m 75 #[.val (.int ((((y.toUInt32 >>> ((4 : Int32) &&& 31).toUInt32).toInt32).toUInt32 >>> ((2 : Int32) &&& 31).toUInt32).toInt32)), .val (.int (((1 : Int32) + (4 : Int32)) + (2 : Int32)))] [(.int (((1 : Int32) + (4 : Int32)) + (2 : Int32)))]))
            refine Go.step (fun _ k => XS.iloadN X0.here hx rfl (hb hby d10_75) rfl k) ?_
            show Go _ _ _ _ (s₁.setTop (mkF m 76 #[.val (.int ((((y.toUInt32 >>> ((4 : Int32) &&& 31).toUInt32).toInt32).toUInt32 >>> ((2 : Int32) &&& 31).toUInt32).toInt32)), .val (.int (((1 : Int32) + (4 : Int32)) + (2 : Int32)))] [(.int ((((y.toUInt32 >>> ((4 : Int32) &&& 31).toUInt32).toInt32).toUInt32 >>> ((2 : Int32) &&& 31).toUInt32).toInt32)), (.int (((1 : Int32) + (4 : Int32)) + (2 : Int32)))]))
            refine Go.step (fun _ k => XS.iconst X0.here hx rfl (hb hby d10_76) k) ?_
            show Go _ _ _ _ (s₁.setTop (mkF m 77 #[.val (.int ((((y.toUInt32 >>> ((4 : Int32) &&& 31).toUInt32).toInt32).toUInt32 >>> ((2 : Int32) &&& 31).toUInt32).toInt32)), .val (.int (((1 : Int32) + (4 : Int32)) + (2 : Int32)))] [(.int (1 : Int32)), (.int ((((y.toUInt32 >>> ((4 : Int32) &&& 31).toUInt32).toInt32).toUInt32 >>> ((2 : Int32) &&& 31).toUInt32).toInt32)), (.int (((1 : Int32) + (4 : Int32)) + (2 : Int32)))]))
            refine Go.step (fun _ k => XS.iushr X0.here hx rfl (hb hby d10_77) rfl k) ?_
            show Go _ _ _ _ (s₁.setTop (mkF m 78 #[.val (.int ((((y.toUInt32 >>> ((4 : Int32) &&& 31).toUInt32).toInt32).toUInt32 >>> ((2 : Int32) &&& 31).toUInt32).toInt32)), .val (.int (((1 : Int32) + (4 : Int32)) + (2 : Int32)))] [(.int ((((((y.toUInt32 >>> ((4 : Int32) &&& 31).toUInt32).toInt32).toUInt32 >>> ((2 : Int32) &&& 31).toUInt32).toInt32).toUInt32 >>> ((1 : Int32) &&& 31).toUInt32).toInt32)), (.int (((1 : Int32) + (4 : Int32)) + (2 : Int32)))]))
            refine Go.step (fun _ k => XS.iadd X0.here hx rfl (hb hby d10_78) rfl k) ?_
            show Go _ _ _ _ (s₁.setTop (mkF m 79 #[.val (.int ((((y.toUInt32 >>> ((4 : Int32) &&& 31).toUInt32).toInt32).toUInt32 >>> ((2 : Int32) &&& 31).toUInt32).toInt32)), .val (.int (((1 : Int32) + (4 : Int32)) + (2 : Int32)))] [(.int ((((1 : Int32) + (4 : Int32)) + (2 : Int32)) + ((((((y.toUInt32 >>> ((4 : Int32) &&& 31).toUInt32).toInt32).toUInt32 >>> ((2 : Int32) &&& 31).toUInt32).toInt32).toUInt32 >>> ((1 : Int32) &&& 31).toUInt32).toInt32)))]))
            exact leafI X0 hx hret hlk (hb hby d10_79) ⟨by rw [own_t, if_pos hc1, if_neg hc2, if_neg hc10, if_pos hc14, if_pos hc15], e0, rfl⟩ (by decide) (by decide)
          · refine Go.step (fun _ k => XS.icmpYes X0.here hx rfl (pc0 := 64) (pc' := 74) rfl (hb hby d10_64) rfl (flt hc15).2.2.2 (by decide) (by decide) k) ?_
            show Go _ _ _ _ (s₁.setTop (mkF m 74 #[.val (.int ((y.toUInt32 >>> ((4 : Int32) &&& 31).toUInt32).toInt32)), .val (.int ((1 : Int32) + (4 : Int32)))] []))
            refine Go.step (fun _ k => XS.iloadN X0.here hx rfl (hb hby d10_74) rfl k) ?_
            show Go _ _ _ _ (s₁.setTop (mkF m 75 #[.val (.int ((y.toUInt32 >>> ((4 : Int32) &&& 31).toUInt32).toInt32)), .val (.int ((1 : Int32) + (4 : Int32)))] [(.int ((1 : Int32) + (4 : Int32)))]))
            refine Go.step (fun _ k => XS.iloadN X0.here hx rfl (hb hby d10_75) rfl k) ?_
            show Go _ _ _ _ (s₁.setTop (mkF m 76 #[.val (.int ((y.toUInt32 >>> ((4 : Int32) &&& 31).toUInt32).toInt32)), .val (.int ((1 : Int32) + (4 : Int32)))] [(.int ((y.toUInt32 >>> ((4 : Int32) &&& 31).toUInt32).toInt32)), (.int ((1 : Int32) + (4 : Int32)))]))
            refine Go.step (fun _ k => XS.iconst X0.here hx rfl (hb hby d10_76) k) ?_
            show Go _ _ _ _ (s₁.setTop (mkF m 77 #[.val (.int ((y.toUInt32 >>> ((4 : Int32) &&& 31).toUInt32).toInt32)), .val (.int ((1 : Int32) + (4 : Int32)))] [(.int (1 : Int32)), (.int ((y.toUInt32 >>> ((4 : Int32) &&& 31).toUInt32).toInt32)), (.int ((1 : Int32) + (4 : Int32)))]))
            refine Go.step (fun _ k => XS.iushr X0.here hx rfl (hb hby d10_77) rfl k) ?_
            show Go _ _ _ _ (s₁.setTop (mkF m 78 #[.val (.int ((y.toUInt32 >>> ((4 : Int32) &&& 31).toUInt32).toInt32)), .val (.int ((1 : Int32) + (4 : Int32)))] [(.int ((((y.toUInt32 >>> ((4 : Int32) &&& 31).toUInt32).toInt32).toUInt32 >>> ((1 : Int32) &&& 31).toUInt32).toInt32)), (.int ((1 : Int32) + (4 : Int32)))]))
            refine Go.step (fun _ k => XS.iadd X0.here hx rfl (hb hby d10_78) rfl k) ?_
            show Go _ _ _ _ (s₁.setTop (mkF m 79 #[.val (.int ((y.toUInt32 >>> ((4 : Int32) &&& 31).toUInt32).toInt32)), .val (.int ((1 : Int32) + (4 : Int32)))] [(.int (((1 : Int32) + (4 : Int32)) + ((((y.toUInt32 >>> ((4 : Int32) &&& 31).toUInt32).toInt32).toUInt32 >>> ((1 : Int32) &&& 31).toUInt32).toInt32)))]))
            exact leafI X0 hx hret hlk (hb hby d10_79) ⟨by rw [own_t, if_pos hc1, if_neg hc2, if_neg hc10, if_pos hc14, if_neg hc15], e0, rfl⟩ (by decide) (by decide)
        · refine Go.step (fun _ k => XS.icmpYes X0.here hx rfl (pc0 := 52) (pc' := 62) rfl (hb hby d10_52) rfl (flt hc14).2.2.2 (by decide) (by decide) k) ?_
          show Go _ _ _ _ (s₁.setTop (mkF m 62 #[.val (.int y), .val (.int (1 : Int32))] []))
          refine Go.step (fun _ k => XS.iloadN X0.here hx rfl (hb hby d10_62) rfl k) ?_
          show Go _ _ _ _ (s₁.setTop (mkF m 63 #[.val (.int y), .val (.int (1 : Int32))] [(.int y)]))
          refine Go.step (fun _ k => XS.iconst X0.here hx rfl (hb hby d10_63) k) ?_
          show Go _ _ _ _ (s₁.setTop (mkF m 64 #[.val (.int y), .val (.int (1 : Int32))] [(.int (4 : Int32)), (.int y)]))
          by_cases hc16 : (4 : Int32) < y
          · refine Go.step (fun _ k => XS.icmpNo X0.here hx rfl (hb hby d10_64) rfl (tlt hc16).2.2.2 k) ?_
            show Go _ _ _ _ (s₁.setTop (mkF m 67 #[.val (.int y), .val (.int (1 : Int32))] []))
            refine Go.step (fun _ k => XS.iinc X0.here hx rfl (hb hby d10_67) rfl (l' := #[.val (.int y), .val (.int ((1 : Int32) + (2 : Int32)))]) rfl k) ?_
            show Go _ _ _ _ (s₁.setTop (mkF m 70 #[.val (.int y), .val (.int ((1 : Int32) + (2 : Int32)))] []))
            refine Go.step (fun _ k => XS.iloadN X0.here hx rfl (hb hby d10_70) rfl k) ?_
            show Go _ _ _ _ (s₁.setTop (mkF m 71 #[.val (.int y), .val (.int ((1 : Int32) + (2 : Int32)))] [(.int y)]))
            refine Go.step (fun _ k => XS.iconst X0.here hx rfl (hb hby d10_71) k) ?_
            show Go _ _ _ _ (s₁.setTop (mkF m 72 #[.val (.int y), .val (.int ((1 : Int32) + (2 : Int32)))] [(.int (2 : Int32)), (.int y)]))
            refine Go.step (fun _ k => XS.iushr X0.here hx rfl (hb hby d10_72) rfl k) ?_
            show Go _ _ _ _ (s₁.setTop (mkF m 73 #[.val (.int y), .val (.int ((1 : Int32) + (2 : Int32)))] [(.int ((y.toUInt32 >>> ((2 : Int32) &&& 31).toUInt32).toInt32))]))
            refine Go.step (fun _ k => XS.istoreN X0.here hx rfl (hb hby d10_73) rfl (l' := #[.val (.int ((y.toUInt32 >>> ((2 : Int32) &&& 31).toUInt32).toInt32)), .val (.int ((1 : Int32) + (2 : Int32)))]) rfl k) ?_
            show Go _ _ _ _ (s₁.setTop (mkF m 74 #[.val (.int ((y.toUInt32 >>> ((2 : Int32) &&& 31).toUInt32).toInt32)), .val (.int ((1 : Int32) + (2 : Int32)))] []))
            refine Go.step (fun _ k => XS.iloadN X0.here hx rfl (hb hby d10_74) rfl k) ?_
            show Go _ _ _ _ (s₁.setTop (mkF m 75 #[.val (.int ((y.toUInt32 >>> ((2 : Int32) &&& 31).toUInt32).toInt32)), .val (.int ((1 : Int32) + (2 : Int32)))] [(.int ((1 : Int32) + (2 : Int32)))]))
            refine Go.step (fun _ k => XS.iloadN X0.here hx rfl (hb hby d10_75) rfl k) ?_
            show Go _ _ _ _ (s₁.setTop (mkF m 76 #[.val (.int ((y.toUInt32 >>> ((2 : Int32) &&& 31).toUInt32).toInt32)), .val (.int ((1 : Int32) + (2 : Int32)))] [(.int ((y.toUInt32 >>> ((2 : Int32) &&& 31).toUInt32).toInt32)), (.int ((1 : Int32) + (2 : Int32)))]))
            refine Go.step (fun _ k => XS.iconst X0.here hx rfl (hb hby d10_76) k) ?_
            show Go _ _ _ _ (s₁.setTop (mkF m 77 #[.val (.int ((y.toUInt32 >>> ((2 : Int32) &&& 31).toUInt32).toInt32)), .val (.int ((1 : Int32) + (2 : Int32)))] [(.int (1 : Int32)), (.int ((y.toUInt32 >>> ((2 : Int32) &&& 31).toUInt32).toInt32)), (.int ((1 : Int32) + (2 : Int32)))]))
            refine Go.step (fun _ k => XS.iushr X0.here hx rfl (hb hby d10_77) rfl k) ?_
            show Go _ _ _ _ (s₁.setTop (mkF m 78 #[.val (.int ((y.toUInt32 >>> ((2 : Int32) &&& 31).toUInt32).toInt32)), .val (.int ((1 : Int32) + (2 : Int32)))] [(.int ((((y.toUInt32 >>> ((2 : Int32) &&& 31).toUInt32).toInt32).toUInt32 >>> ((1 : Int32) &&& 31).toUInt32).toInt32)), (.int ((1 : Int32) + (2 : Int32)))]))
            refine Go.step (fun _ k => XS.iadd X0.here hx rfl (hb hby d10_78) rfl k) ?_
            show Go _ _ _ _ (s₁.setTop (mkF m 79 #[.val (.int ((y.toUInt32 >>> ((2 : Int32) &&& 31).toUInt32).toInt32)), .val (.int ((1 : Int32) + (2 : Int32)))] [(.int (((1 : Int32) + (2 : Int32)) + ((((y.toUInt32 >>> ((2 : Int32) &&& 31).toUInt32).toInt32).toUInt32 >>> ((1 : Int32) &&& 31).toUInt32).toInt32)))]))
            exact leafI X0 hx hret hlk (hb hby d10_79) ⟨by rw [own_t, if_pos hc1, if_neg hc2, if_neg hc10, if_neg hc14, if_pos hc16], e0, rfl⟩ (by decide) (by decide)
          · refine Go.step (fun _ k => XS.icmpYes X0.here hx rfl (pc0 := 64) (pc' := 74) rfl (hb hby d10_64) rfl (flt hc16).2.2.2 (by decide) (by decide) k) ?_
            show Go _ _ _ _ (s₁.setTop (mkF m 74 #[.val (.int y), .val (.int (1 : Int32))] []))
            refine Go.step (fun _ k => XS.iloadN X0.here hx rfl (hb hby d10_74) rfl k) ?_
            show Go _ _ _ _ (s₁.setTop (mkF m 75 #[.val (.int y), .val (.int (1 : Int32))] [(.int (1 : Int32))]))
            refine Go.step (fun _ k => XS.iloadN X0.here hx rfl (hb hby d10_75) rfl k) ?_
            show Go _ _ _ _ (s₁.setTop (mkF m 76 #[.val (.int y), .val (.int (1 : Int32))] [(.int y), (.int (1 : Int32))]))
            refine Go.step (fun _ k => XS.iconst X0.here hx rfl (hb hby d10_76) k) ?_
            show Go _ _ _ _ (s₁.setTop (mkF m 77 #[.val (.int y), .val (.int (1 : Int32))] [(.int (1 : Int32)), (.int y), (.int (1 : Int32))]))
            refine Go.step (fun _ k => XS.iushr X0.here hx rfl (hb hby d10_77) rfl k) ?_
            show Go _ _ _ _ (s₁.setTop (mkF m 78 #[.val (.int y), .val (.int (1 : Int32))] [(.int ((y.toUInt32 >>> ((1 : Int32) &&& 31).toUInt32).toInt32)), (.int (1 : Int32))]))
            refine Go.step (fun _ k => XS.iadd X0.here hx rfl (hb hby d10_78) rfl k) ?_
            show Go _ _ _ _ (s₁.setTop (mkF m 79 #[.val (.int y), .val (.int (1 : Int32))] [(.int ((1 : Int32) + ((y.toUInt32 >>> ((1 : Int32) &&& 31).toUInt32).toInt32)))]))
            exact leafI X0 hx hret hlk (hb hby d10_79) ⟨by rw [own_t, if_pos hc1, if_neg hc2, if_neg hc10, if_neg hc14, if_neg hc16], e0, rfl⟩ (by decide) (by decide)
  · refine Go.step (fun _ k => XS.ifNo X0.here hx rfl (hb hby d10_9) rfl ((if0 _ _).trans (flt hc1).2.2.1) k) ?_
    show Go _ _ _ _ (s₁.setTop (mkF m 12 #[.val (.int y), .unset] []))
    refine Go.step (fun _ k => XS.iloadN X0.here hx rfl (hb hby d10_12) rfl k) ?_
    show Go _ _ _ _ (s₁.setTop (mkF m 13 #[.val (.int y), .unset] [(.int y)]))
    refine Go.step (fun _ k => XS.bipush X0.here hx rfl (hb hby d10_13) k) ?_
    show Go _ _ _ _ (s₁.setTop (mkF m 15 #[.val (.int y), .unset] [(.int (32 : Int32)), (.int y)]))
    refine Go.step (fun _ k => XS.iand X0.here hx rfl (hb hby d10_15) rfl k) ?_
    show Go _ _ _ _ (s₁.setTop (mkF m 16 #[.val (.int y), .unset] [(.int (y &&& (32 : Int32)))]))
    exact leafI X0 hx hret hlk (hb hby d10_16) ⟨by rw [own_t, if_neg hc1], e0, rfl⟩ (by decide) (by decide)

theorem own_trail (x : Int32) (h : ¬ x = 0) : ∃ K : Nat, K < 32 ∧ own_t ((x ^^^ (-1 : Int32)) &&& (x - (1 : Int32))) = Int32.ofNat K ∧ x.toBitVec.getLsbD K = true ∧ ∀ j, j < K → x.toBitVec.getLsbD j = false := by
  obtain ⟨K, k1, k2, k3, k4⟩ := own_mask x h
  exact ⟨K, k1, by rw [k2]; exact own_tK ⟨K, k1⟩, k3, k4⟩
theorem own_lob (x : Int64) (j : Nat) (h : j < 32) : x.toInt32.toBitVec.getLsbD j = own_bit x j := by
  rw [Int64.toBitVec_toInt32, BitVec.getLsbD_signExtend]
  simp [h, show j < 64 by omega]
theorem own_hib (x : Int64) (j : Nat) (h : j < 32) : ((x.toUInt64 >>> ((32 : Int32) &&& 0x3f).toInt64.toUInt64).toInt64).toInt32.toBitVec.getLsbD j = own_bit x (32 + j) := by
  rw [own_lob _ j h]
  show (x.toBitVec >>> (((32 : Int32) &&& 0x3f).toInt64.toBitVec % 64)).getLsbD j = _
  rw [BitVec.ushiftRight_eq', BitVec.getLsbD_ushiftRight]
  rfl
theorem own_lo (x : Int64) (h : ¬ x.toInt32 = 0) : NTZ x (own_t ((x.toInt32 ^^^ (-1 : Int32)) &&& (x.toInt32 - (1 : Int32)))) := by
  obtain ⟨K, k1, k2, k3, k4⟩ := own_trail _ h
  exact ⟨K, by omega, k2, by rw [← own_lob x K k1]; exact k3, fun j hj => by rw [← own_lob x j (by omega)]; exact k4 j hj⟩
theorem own_hi (x : Int64) (hx : ¬ x = 0) (h : x.toInt32 = 0) (y : Int32) (hy : y = ((x.toUInt64 >>> ((32 : Int32) &&& 0x3f).toInt64.toUInt64).toInt64).toInt32) : NTZ x ((32 : Int32) + own_t ((y ^^^ (-1 : Int32)) &&& (y - (1 : Int32)))) := by
  have lo : ∀ j, j < 32 → own_bit x j = false := fun j hj => by rw [← own_lob x j hj, h]; show (0#32).getLsbD j = false; simp
  have hy0 : ¬ y = 0 := fun q => hx (own_ext fun j hj => by
    rw [own_zb]
    by_cases c : j < 32
    · exact lo j c
    · have := own_hib x (j - 32) (by omega)
      rw [← hy, q, show 32 + (j - 32) = j by omega] at this
      rw [← this]; show (0#32).getLsbD _ = false; simp)
  obtain ⟨K, k1, k2, k3, k4⟩ := own_trail y hy0
  refine ⟨32 + K, by omega, by rw [k2]; exact (Int32.ofNat_add 32 K).symm, ?_, fun j hj => ?_⟩
  · rw [← own_hib x K k1, ← hy]; exact k3
  · by_cases c : j < 32
    · exact lo j c
    · have := own_hib x (j - 32) (by omega)
      rw [← hy, show 32 + (j - 32) = j by omega] at this
      rw [← this]; exact k4 _ (by omega)

theorem d9_0 : decode jdk_35_method_49_code 0 = .ok (.lload_n 0, 1) := by decide +kernel
theorem d9_1 : decode jdk_35_method_49_code 1 = .ok (.l2i, 1) := by decide +kernel
theorem d9_2 : decode jdk_35_method_49_code 2 = .ok (.istore_n 2, 1) := by decide +kernel
theorem d9_3 : decode jdk_35_method_49_code 3 = .ok (.iload_n 2, 1) := by decide +kernel
theorem d9_4 : decode jdk_35_method_49_code 4 = .ok (.ifCond .ne 17, 3) := by decide +kernel
theorem d9_7 : decode jdk_35_method_49_code 7 = .ok (.bipush 32, 2) := by decide +kernel
theorem d9_9 : decode jdk_35_method_49_code 9 = .ok (.lload_n 0, 1) := by decide +kernel
theorem d9_10 : decode jdk_35_method_49_code 10 = .ok (.bipush 32, 2) := by decide +kernel
theorem d9_12 : decode jdk_35_method_49_code 12 = .ok (.lushr, 1) := by decide +kernel
theorem d9_13 : decode jdk_35_method_49_code 13 = .ok (.l2i, 1) := by decide +kernel
theorem d9_14 : decode jdk_35_method_49_code 14 = .ok (.invokestatic 311, 3) := by decide +kernel
theorem d9_17 : decode jdk_35_method_49_code 17 = .ok (.iadd, 1) := by decide +kernel
theorem d9_18 : decode jdk_35_method_49_code 18 = .ok (.goto 7, 3) := by decide +kernel
theorem d9_21 : decode jdk_35_method_49_code 21 = .ok (.iload_n 2, 1) := by decide +kernel
theorem d9_22 : decode jdk_35_method_49_code 22 = .ok (.invokestatic 311, 3) := by decide +kernel
theorem d9_25 : decode jdk_35_method_49_code 25 = .ok (.ireturn, 1) := by decide +kernel
theorem pn9 : plainFor (⟨"java/lang/Long", "numberOfTrailingZeros", "(J)I"⟩ : MethodName) = true := plainFor_of_name (by first | (simp [plainName, overriddenIn]; done) | decide +kernel)
theorem pd9 : parseMethodDescriptor "(J)I" = some ⟨[.long], some .int⟩ := by decide +kernel
theorem ef9 (m : MethodId) (x0 : Int64) : entryFrame m #[(.long x0)] 3 = mkF m 0 #[.val (.long x0), .second, .unset] [] := by first | (simp [entryFrame, mkF, argsToLocals, Value.category]; done) | rfl
set_option maxRecDepth 65536 in
set_option maxHeartbeats 40000000 in
theorem rm9 (l : Launch) (Z : State) (a0 : Array Value) (hw : ∀ d ∈ tables_1, d.before a0 Z = true) (ws : List Jvm.Cond) (x0 : Int64) (h0 : Heap) (hx0 : ¬ x0 = 0) : Con l Z (⟨"java/lang/Long", "numberOfTrailingZeros", "(J)I"⟩ : MethodName) jdk_35_method_49_code 3 (some .int) ws ({ frames := 1, cells := 0, slots := 0, locals := 16 } : Room) #[(.long x0)] h0 (fun v h L => (∃ k : Int32, v = some (.int k) ∧ NTZ x0 k) ∧ h = h0 ∧ L = []) := by
  refine Con.of pn9 fun p e s m below meth c s₁ hZ hx hby hml hown hret hlk hnm X0 e0 => ?_
  rw [ef9]
  show Go _ _ _ _ (s₁.setTop (mkF m 0 #[.val (.long x0), .second, .unset] []))
  refine Go.step (fun _ k => XS.lloadN X0.here hx rfl (hb hby d9_0) rfl k) ?_
  show Go _ _ _ _ (s₁.setTop (mkF m 1 #[.val (.long x0), .second, .unset] [(.long x0)]))
  refine Go.step (fun _ k => XS.l2i X0.here hx rfl (hb hby d9_1) rfl k) ?_
  show Go _ _ _ _ (s₁.setTop (mkF m 2 #[.val (.long x0), .second, .unset] [(.int (x0.toInt32))]))
  refine Go.step (fun _ k => XS.istoreN X0.here hx rfl (hb hby d9_2) rfl (l' := #[.val (.long x0), .second, .val (.int (x0.toInt32))]) rfl k) ?_
  show Go _ _ _ _ (s₁.setTop (mkF m 3 #[.val (.long x0), .second, .val (.int (x0.toInt32))] []))
  refine Go.step (fun _ k => XS.iloadN X0.here hx rfl (hb hby d9_3) rfl k) ?_
  show Go _ _ _ _ (s₁.setTop (mkF m 4 #[.val (.long x0), .second, .val (.int (x0.toInt32))] [(.int (x0.toInt32))]))
  by_cases hc1 : (x0.toInt32) = (0 : Int32)
  · refine Go.step (fun _ k => XS.ifNo X0.here hx rfl (hb hby d9_4) rfl ((if0 _ _).trans (teq hc1).2) k) ?_
    show Go _ _ _ _ (s₁.setTop (mkF m 7 #[.val (.long x0), .second, .val (.int (x0.toInt32))] []))
    refine Go.step (fun _ k => XS.bipush X0.here hx rfl (hb hby d9_7) k) ?_
    show Go _ _ _ _ (s₁.setTop (mkF m 9 #[.val (.long x0), .second, .val (.int (x0.toInt32))] [(.int (32 : Int32))]))
    refine Go.step (fun _ k => XS.lloadN X0.here hx rfl (hb hby d9_9) rfl k) ?_
    show Go _ _ _ _ (s₁.setTop (mkF m 10 #[.val (.long x0), .second, .val (.int (x0.toInt32))] [(.long x0), (.int (32 : Int32))]))
    refine Go.step (fun _ k => XS.bipush X0.here hx rfl (hb hby d9_10) k) ?_
    show Go _ _ _ _ (s₁.setTop (mkF m 12 #[.val (.long x0), .second, .val (.int (x0.toInt32))] [(.int (32 : Int32)), (.long x0), (.int (32 : Int32))]))
    refine Go.step (fun _ k => XS.lushr X0.here hx rfl (hb hby d9_12) rfl k) ?_
    show Go _ _ _ _ (s₁.setTop (mkF m 13 #[.val (.long x0), .second, .val (.int (x0.toInt32))] [(.long ((x0.toUInt64 >>> ((32 : Int32) &&& 0x3f).toInt64.toUInt64).toInt64)), (.int (32 : Int32))]))
    refine Go.step (fun _ k => XS.l2i X0.here hx rfl (hb hby d9_13) rfl k) ?_
    show Go _ _ _ _ (s₁.setTop (mkF m 14 #[.val (.long x0), .second, .val (.int (x0.toInt32))] [(.int (((x0.toUInt64 >>> ((32 : Int32) &&& 0x3f).toInt64.toUInt64).toInt64).toInt32)), (.int (32 : Int32))]))
    refine goS X0 hx hZ hown (hw _ (List.mem_of_getElem? (i := 51) rfl)) (hw _ (List.mem_of_getElem? (i := 52) rfl)) (hw _ (List.mem_of_getElem? (i := 53) rfl)) (hw _ (List.mem_of_getElem? (i := 54) rfl)) (by decide) (rm10 l Z a0 hw [] (((x0.toUInt64 >>> ((32 : Int32) &&& 0x3f).toInt64.toUInt64).toInt64).toInt32) h0) e0 (by rw [hml]; rfl) [(.int (((x0.toUInt64 >>> ((32 : Int32) &&& 0x3f).toInt64.toUInt64).toInt64).toInt32))] [(.int (32 : Int32))] rfl pd10 rfl rfl 1 rfl (hb hby d9_14) (by decide) (by decide) (by decide) (by decide) fun T2 L2 v2 q2 X2 => ?_
    obtain ⟨rfl, e2, rfl⟩ := q2
    rw [List.append_nil] at X2
    show Go _ _ _ _ (T2.setTop (mkF m 17 #[.val (.long x0), .second, .val (.int (x0.toInt32))] [(.int (own_t (((((x0.toUInt64 >>> ((32 : Int32) &&& 0x3f).toInt64.toUInt64).toInt64).toInt32) ^^^ (-1 : Int32)) &&& ((((x0.toUInt64 >>> ((32 : Int32) &&& 0x3f).toInt64.toUInt64).toInt64).toInt32) - (1 : Int32))))), (.int (32 : Int32))]))
    refine Go.step (fun _ k => XS.iadd X2.here hx rfl (hb hby d9_17) rfl k) ?_
    show Go _ _ _ _ (T2.setTop (mkF m 18 #[.val (.long x0), .second, .val (.int (x0.toInt32))] [(.int ((32 : Int32) + (own_t (((((x0.toUInt64 >>> ((32 : Int32) &&& 0x3f).toInt64.toUInt64).toInt64).toInt32) ^^^ (-1 : Int32)) &&& ((((x0.toUInt64 >>> ((32 : Int32) &&& 0x3f).toInt64.toUInt64).toInt64).toInt32) - (1 : Int32))))))]))
    refine Go.step (fun _ k => XS.goto X2.here hx rfl (pc0 := 18) (pc' := 25) rfl (hb hby d9_18) (by decide) (by decide) k) ?_
    show Go _ _ _ _ (T2.setTop (mkF m 25 #[.val (.long x0), .second, .val (.int (x0.toInt32))] [(.int ((32 : Int32) + (own_t (((((x0.toUInt64 >>> ((32 : Int32) &&& 0x3f).toInt64.toUInt64).toInt64).toInt32) ^^^ (-1 : Int32)) &&& ((((x0.toUInt64 >>> ((32 : Int32) &&& 0x3f).toInt64.toUInt64).toInt64).toInt32) - (1 : Int32))))))]))
    exact leafI X2 hx hret hlk (hb hby d9_25) ⟨⟨_, rfl, own_hi x0 hx0 hc1 _ rfl⟩, e2, rfl⟩ (by decide) (by decide)
  · refine Go.step (fun _ k => XS.ifYes X0.here hx rfl (pc0 := 4) (pc' := 21) rfl (hb hby d9_4) rfl ((if0 _ _).trans (feq hc1).2) (by decide) (by decide) k) ?_
    show Go _ _ _ _ (s₁.setTop (mkF m 21 #[.val (.long x0), .second, .val (.int (x0.toInt32))] []))
    refine Go.step (fun _ k => XS.iloadN X0.here hx rfl (hb hby d9_21) rfl k) ?_
    show Go _ _ _ _ (s₁.setTop (mkF m 22 #[.val (.long x0), .second, .val (.int (x0.toInt32))] [(.int (x0.toInt32))]))
    refine goS X0 hx hZ hown (hw _ (List.mem_of_getElem? (i := 51) rfl)) (hw _ (List.mem_of_getElem? (i := 52) rfl)) (hw _ (List.mem_of_getElem? (i := 53) rfl)) (hw _ (List.mem_of_getElem? (i := 54) rfl)) (by decide) (rm10 l Z a0 hw [] (x0.toInt32) h0) e0 (by rw [hml]; rfl) [(.int (x0.toInt32))] [] rfl pd10 rfl rfl 0 rfl (hb hby d9_22) (by decide) (by decide) (by decide) (by decide) fun T3 L3 v3 q3 X3 => ?_
    obtain ⟨rfl, e3, rfl⟩ := q3
    rw [List.append_nil] at X3
    show Go _ _ _ _ (T3.setTop (mkF m 25 #[.val (.long x0), .second, .val (.int (x0.toInt32))] [(.int (own_t (((x0.toInt32) ^^^ (-1 : Int32)) &&& ((x0.toInt32) - (1 : Int32)))))]))
    exact leafI X3 hx hret hlk (hb hby d9_25) ⟨⟨_, rfl, own_lo x0 hc1⟩, e3, rfl⟩ (by decide) (by decide)
def own_inn (x a b c d : Int32) : Int32 := if ((x = a ∧ ¬ x = c) ∨ x = b) ∧ ¬ x = d then 1 else 0
def own_min (a b : Int32) : Int32 := if b < a then b else a
theorem d12_0 : decode method_2_code 0 = .ok (.iload_n 0, 1) := by decide +kernel
theorem d12_1 : decode method_2_code 1 = .ok (.iload_n 1, 1) := by decide +kernel
theorem d12_2 : decode method_2_code 2 = .ok (.if_icmp .ne 8, 3) := by decide +kernel
theorem d12_5 : decode method_2_code 5 = .ok (.iload_n 0, 1) := by decide +kernel
theorem d12_6 : decode method_2_code 6 = .ok (.iload_n 3, 1) := by decide +kernel
theorem d12_7 : decode method_2_code 7 = .ok (.if_icmp .ne 8, 3) := by decide +kernel
theorem d12_10 : decode method_2_code 10 = .ok (.iload_n 0, 1) := by decide +kernel
theorem d12_11 : decode method_2_code 11 = .ok (.iload_n 2, 1) := by decide +kernel
theorem d12_12 : decode method_2_code 12 = .ok (.if_icmp .ne 13, 3) := by decide +kernel
theorem d12_15 : decode method_2_code 15 = .ok (.iload_n 0, 1) := by decide +kernel
theorem d12_16 : decode method_2_code 16 = .ok (.iload 4, 2) := by decide +kernel
theorem d12_18 : decode method_2_code 18 = .ok (.if_icmp .eq 7, 3) := by decide +kernel
theorem d12_21 : decode method_2_code 21 = .ok (.iconst 1, 1) := by decide +kernel
theorem d12_22 : decode method_2_code 22 = .ok (.goto 4, 3) := by decide +kernel
theorem d12_25 : decode method_2_code 25 = .ok (.iconst 0, 1) := by decide +kernel
theorem d12_26 : decode method_2_code 26 = .ok (.ireturn, 1) := by decide +kernel
theorem pn12 : plainFor (⟨"com/example/prefix_scope/prefixscope/NumberSetRemovePinLaw", "in", "(IIIII)Z"⟩ : MethodName) = true := plainFor_of_name (by first | (simp [plainName, overriddenIn]; done) | decide +kernel)
theorem pd12 : parseMethodDescriptor "(IIIII)Z" = some ⟨[.int, .int, .int, .int, .int], some .boolean⟩ := by decide +kernel
theorem ef12 (m : MethodId) (x0 : Int32) (x1 : Int32) (x2 : Int32) (x3 : Int32) (x4 : Int32) : entryFrame m #[(.int x0), (.int x1), (.int x2), (.int x3), (.int x4)] 5 = mkF m 0 #[.val (.int x0), .val (.int x1), .val (.int x2), .val (.int x3), .val (.int x4)] [] := by first | (simp [entryFrame, mkF, argsToLocals, Value.category]; done) | rfl
set_option maxRecDepth 65536 in
set_option maxHeartbeats 40000000 in
theorem rm12 (l : Launch) (Z : State) (a0 : Array Value) (hw : ∀ d ∈ tables_1, d.before a0 Z = true) (ws : List Jvm.Cond) (x0 : Int32) (x1 : Int32) (x2 : Int32) (x3 : Int32) (x4 : Int32) (h0 : Heap) : Con l Z (⟨"com/example/prefix_scope/prefixscope/NumberSetRemovePinLaw", "in", "(IIIII)Z"⟩ : MethodName) method_2_code 5 (some .boolean) ws ({ frames := 0, cells := 0, slots := 0, locals := 0 } : Room) #[(.int x0), (.int x1), (.int x2), (.int x3), (.int x4)] h0 (fun v h L => v = some (.int (own_inn x0 x1 x2 x3 x4)) ∧ h = h0 ∧ L = []) := by
  refine Con.of pn12 fun p e s m below meth c s₁ hZ hx hby hml hown hret hlk hnm X0 e0 => ?_
  rw [ef12]
  show Go _ _ _ _ (s₁.setTop (mkF m 0 #[.val (.int x0), .val (.int x1), .val (.int x2), .val (.int x3), .val (.int x4)] []))
  refine Go.step (fun _ k => XS.iloadN X0.here hx rfl (hb hby d12_0) rfl k) ?_
  show Go _ _ _ _ (s₁.setTop (mkF m 1 #[.val (.int x0), .val (.int x1), .val (.int x2), .val (.int x3), .val (.int x4)] [(.int x0)]))
  refine Go.step (fun _ k => XS.iloadN X0.here hx rfl (hb hby d12_1) rfl k) ?_
  show Go _ _ _ _ (s₁.setTop (mkF m 2 #[.val (.int x0), .val (.int x1), .val (.int x2), .val (.int x3), .val (.int x4)] [(.int x1), (.int x0)]))
  by_cases hc1 : x0 = x1
  · refine Go.step (fun _ k => XS.icmpNo X0.here hx rfl (hb hby d12_2) rfl (teq hc1).2 k) ?_
    show Go _ _ _ _ (s₁.setTop (mkF m 5 #[.val (.int x0), .val (.int x1), .val (.int x2), .val (.int x3), .val (.int x4)] []))
    refine Go.step (fun _ k => XS.iloadN X0.here hx rfl (hb hby d12_5) rfl k) ?_
    show Go _ _ _ _ (s₁.setTop (mkF m 6 #[.val (.int x0), .val (.int x1), .val (.int x2), .val (.int x3), .val (.int x4)] [(.int x0)]))
    refine Go.step (fun _ k => XS.iloadN X0.here hx rfl (hb hby d12_6) rfl k) ?_
    show Go _ _ _ _ (s₁.setTop (mkF m 7 #[.val (.int x0), .val (.int x1), .val (.int x2), .val (.int x3), .val (.int x4)] [(.int x3), (.int x0)]))
    by_cases hc2 : x0 = x3
    · refine Go.step (fun _ k => XS.icmpNo X0.here hx rfl (hb hby d12_7) rfl (teq hc2).2 k) ?_
      show Go _ _ _ _ (s₁.setTop (mkF m 10 #[.val (.int x0), .val (.int x1), .val (.int x2), .val (.int x3), .val (.int x4)] []))
      refine Go.step (fun _ k => XS.iloadN X0.here hx rfl (hb hby d12_10) rfl k) ?_
      show Go _ _ _ _ (s₁.setTop (mkF m 11 #[.val (.int x0), .val (.int x1), .val (.int x2), .val (.int x3), .val (.int x4)] [(.int x0)]))
      refine Go.step (fun _ k => XS.iloadN X0.here hx rfl (hb hby d12_11) rfl k) ?_
      show Go _ _ _ _ (s₁.setTop (mkF m 12 #[.val (.int x0), .val (.int x1), .val (.int x2), .val (.int x3), .val (.int x4)] [(.int x2), (.int x0)]))
      by_cases hc3 : x0 = x2
      · refine Go.step (fun _ k => XS.icmpNo X0.here hx rfl (hb hby d12_12) rfl (teq hc3).2 k) ?_
        show Go _ _ _ _ (s₁.setTop (mkF m 15 #[.val (.int x0), .val (.int x1), .val (.int x2), .val (.int x3), .val (.int x4)] []))
        refine Go.step (fun _ k => XS.iloadN X0.here hx rfl (hb hby d12_15) rfl k) ?_
        show Go _ _ _ _ (s₁.setTop (mkF m 16 #[.val (.int x0), .val (.int x1), .val (.int x2), .val (.int x3), .val (.int x4)] [(.int x0)]))
        refine Go.step (fun _ k => XS.iload X0.here hx rfl (hb hby d12_16) rfl k) ?_
        show Go _ _ _ _ (s₁.setTop (mkF m 18 #[.val (.int x0), .val (.int x1), .val (.int x2), .val (.int x3), .val (.int x4)] [(.int x4), (.int x0)]))
        by_cases hc4 : x0 = x4
        · refine Go.step (fun _ k => XS.icmpYes X0.here hx rfl (pc0 := 18) (pc' := 25) rfl (hb hby d12_18) rfl (teq hc4).1 (by decide) (by decide) k) ?_
          show Go _ _ _ _ (s₁.setTop (mkF m 25 #[.val (.int x0), .val (.int x1), .val (.int x2), .val (.int x3), .val (.int x4)] []))
          refine Go.step (fun _ k => XS.iconst X0.here hx rfl (hb hby d12_25) k) ?_
          show Go _ _ _ _ (s₁.setTop (mkF m 26 #[.val (.int x0), .val (.int x1), .val (.int x2), .val (.int x3), .val (.int x4)] [(.int (0 : Int32))]))
          exact leafN X0 hx (t := .boolean) hret (by simp) hlk (w := (0 : Int32)) rfl (hb hby d12_26) ⟨by rw [own_inn, if_neg (fun q => q.2 hc4)], e0, rfl⟩ (by decide) (by decide)
        · refine Go.step (fun _ k => XS.icmpNo X0.here hx rfl (hb hby d12_18) rfl (feq hc4).1 k) ?_
          show Go _ _ _ _ (s₁.setTop (mkF m 21 #[.val (.int x0), .val (.int x1), .val (.int x2), .val (.int x3), .val (.int x4)] []))
          refine Go.step (fun _ k => XS.iconst X0.here hx rfl (hb hby d12_21) k) ?_
          show Go _ _ _ _ (s₁.setTop (mkF m 22 #[.val (.int x0), .val (.int x1), .val (.int x2), .val (.int x3), .val (.int x4)] [(.int (1 : Int32))]))
          refine Go.step (fun _ k => XS.goto X0.here hx rfl (pc0 := 22) (pc' := 26) rfl (hb hby d12_22) (by decide) (by decide) k) ?_
          show Go _ _ _ _ (s₁.setTop (mkF m 26 #[.val (.int x0), .val (.int x1), .val (.int x2), .val (.int x3), .val (.int x4)] [(.int (1 : Int32))]))
          exact leafN X0 hx (t := .boolean) hret (by simp) hlk (w := (1 : Int32)) rfl (hb hby d12_26) ⟨by rw [own_inn, if_pos ⟨Or.inr hc3, hc4⟩], e0, rfl⟩ (by decide) (by decide)
      · refine Go.step (fun _ k => XS.icmpYes X0.here hx rfl (pc0 := 12) (pc' := 25) rfl (hb hby d12_12) rfl (feq hc3).2 (by decide) (by decide) k) ?_
        show Go _ _ _ _ (s₁.setTop (mkF m 25 #[.val (.int x0), .val (.int x1), .val (.int x2), .val (.int x3), .val (.int x4)] []))
        refine Go.step (fun _ k => XS.iconst X0.here hx rfl (hb hby d12_25) k) ?_
        show Go _ _ _ _ (s₁.setTop (mkF m 26 #[.val (.int x0), .val (.int x1), .val (.int x2), .val (.int x3), .val (.int x4)] [(.int (0 : Int32))]))
        exact leafN X0 hx (t := .boolean) hret (by simp) hlk (w := (0 : Int32)) rfl (hb hby d12_26) ⟨by rw [own_inn, if_neg (fun q => q.1.elim (fun z => z.2 hc2) hc3)], e0, rfl⟩ (by decide) (by decide)
    · refine Go.step (fun _ k => XS.icmpYes X0.here hx rfl (pc0 := 7) (pc' := 15) rfl (hb hby d12_7) rfl (feq hc2).2 (by decide) (by decide) k) ?_
      show Go _ _ _ _ (s₁.setTop (mkF m 15 #[.val (.int x0), .val (.int x1), .val (.int x2), .val (.int x3), .val (.int x4)] []))
      refine Go.step (fun _ k => XS.iloadN X0.here hx rfl (hb hby d12_15) rfl k) ?_
      show Go _ _ _ _ (s₁.setTop (mkF m 16 #[.val (.int x0), .val (.int x1), .val (.int x2), .val (.int x3), .val (.int x4)] [(.int x0)]))
      refine Go.step (fun _ k => XS.iload X0.here hx rfl (hb hby d12_16) rfl k) ?_
      show Go _ _ _ _ (s₁.setTop (mkF m 18 #[.val (.int x0), .val (.int x1), .val (.int x2), .val (.int x3), .val (.int x4)] [(.int x4), (.int x0)]))
      by_cases hc5 : x0 = x4
      · refine Go.step (fun _ k => XS.icmpYes X0.here hx rfl (pc0 := 18) (pc' := 25) rfl (hb hby d12_18) rfl (teq hc5).1 (by decide) (by decide) k) ?_
        show Go _ _ _ _ (s₁.setTop (mkF m 25 #[.val (.int x0), .val (.int x1), .val (.int x2), .val (.int x3), .val (.int x4)] []))
        refine Go.step (fun _ k => XS.iconst X0.here hx rfl (hb hby d12_25) k) ?_
        show Go _ _ _ _ (s₁.setTop (mkF m 26 #[.val (.int x0), .val (.int x1), .val (.int x2), .val (.int x3), .val (.int x4)] [(.int (0 : Int32))]))
        exact leafN X0 hx (t := .boolean) hret (by simp) hlk (w := (0 : Int32)) rfl (hb hby d12_26) ⟨by rw [own_inn, if_neg (fun q => q.2 hc5)], e0, rfl⟩ (by decide) (by decide)
      · refine Go.step (fun _ k => XS.icmpNo X0.here hx rfl (hb hby d12_18) rfl (feq hc5).1 k) ?_
        show Go _ _ _ _ (s₁.setTop (mkF m 21 #[.val (.int x0), .val (.int x1), .val (.int x2), .val (.int x3), .val (.int x4)] []))
        refine Go.step (fun _ k => XS.iconst X0.here hx rfl (hb hby d12_21) k) ?_
        show Go _ _ _ _ (s₁.setTop (mkF m 22 #[.val (.int x0), .val (.int x1), .val (.int x2), .val (.int x3), .val (.int x4)] [(.int (1 : Int32))]))
        refine Go.step (fun _ k => XS.goto X0.here hx rfl (pc0 := 22) (pc' := 26) rfl (hb hby d12_22) (by decide) (by decide) k) ?_
        show Go _ _ _ _ (s₁.setTop (mkF m 26 #[.val (.int x0), .val (.int x1), .val (.int x2), .val (.int x3), .val (.int x4)] [(.int (1 : Int32))]))
        exact leafN X0 hx (t := .boolean) hret (by simp) hlk (w := (1 : Int32)) rfl (hb hby d12_26) ⟨by rw [own_inn, if_pos ⟨Or.inl ⟨hc1, hc2⟩, hc5⟩], e0, rfl⟩ (by decide) (by decide)
  · refine Go.step (fun _ k => XS.icmpYes X0.here hx rfl (pc0 := 2) (pc' := 10) rfl (hb hby d12_2) rfl (feq hc1).2 (by decide) (by decide) k) ?_
    show Go _ _ _ _ (s₁.setTop (mkF m 10 #[.val (.int x0), .val (.int x1), .val (.int x2), .val (.int x3), .val (.int x4)] []))
    refine Go.step (fun _ k => XS.iloadN X0.here hx rfl (hb hby d12_10) rfl k) ?_
    show Go _ _ _ _ (s₁.setTop (mkF m 11 #[.val (.int x0), .val (.int x1), .val (.int x2), .val (.int x3), .val (.int x4)] [(.int x0)]))
    refine Go.step (fun _ k => XS.iloadN X0.here hx rfl (hb hby d12_11) rfl k) ?_
    show Go _ _ _ _ (s₁.setTop (mkF m 12 #[.val (.int x0), .val (.int x1), .val (.int x2), .val (.int x3), .val (.int x4)] [(.int x2), (.int x0)]))
    by_cases hc6 : x0 = x2
    · refine Go.step (fun _ k => XS.icmpNo X0.here hx rfl (hb hby d12_12) rfl (teq hc6).2 k) ?_
      show Go _ _ _ _ (s₁.setTop (mkF m 15 #[.val (.int x0), .val (.int x1), .val (.int x2), .val (.int x3), .val (.int x4)] []))
      refine Go.step (fun _ k => XS.iloadN X0.here hx rfl (hb hby d12_15) rfl k) ?_
      show Go _ _ _ _ (s₁.setTop (mkF m 16 #[.val (.int x0), .val (.int x1), .val (.int x2), .val (.int x3), .val (.int x4)] [(.int x0)]))
      refine Go.step (fun _ k => XS.iload X0.here hx rfl (hb hby d12_16) rfl k) ?_
      show Go _ _ _ _ (s₁.setTop (mkF m 18 #[.val (.int x0), .val (.int x1), .val (.int x2), .val (.int x3), .val (.int x4)] [(.int x4), (.int x0)]))
      by_cases hc7 : x0 = x4
      · refine Go.step (fun _ k => XS.icmpYes X0.here hx rfl (pc0 := 18) (pc' := 25) rfl (hb hby d12_18) rfl (teq hc7).1 (by decide) (by decide) k) ?_
        show Go _ _ _ _ (s₁.setTop (mkF m 25 #[.val (.int x0), .val (.int x1), .val (.int x2), .val (.int x3), .val (.int x4)] []))
        refine Go.step (fun _ k => XS.iconst X0.here hx rfl (hb hby d12_25) k) ?_
        show Go _ _ _ _ (s₁.setTop (mkF m 26 #[.val (.int x0), .val (.int x1), .val (.int x2), .val (.int x3), .val (.int x4)] [(.int (0 : Int32))]))
        exact leafN X0 hx (t := .boolean) hret (by simp) hlk (w := (0 : Int32)) rfl (hb hby d12_26) ⟨by rw [own_inn, if_neg (fun q => q.2 hc7)], e0, rfl⟩ (by decide) (by decide)
      · refine Go.step (fun _ k => XS.icmpNo X0.here hx rfl (hb hby d12_18) rfl (feq hc7).1 k) ?_
        show Go _ _ _ _ (s₁.setTop (mkF m 21 #[.val (.int x0), .val (.int x1), .val (.int x2), .val (.int x3), .val (.int x4)] []))
        refine Go.step (fun _ k => XS.iconst X0.here hx rfl (hb hby d12_21) k) ?_
        show Go _ _ _ _ (s₁.setTop (mkF m 22 #[.val (.int x0), .val (.int x1), .val (.int x2), .val (.int x3), .val (.int x4)] [(.int (1 : Int32))]))
        refine Go.step (fun _ k => XS.goto X0.here hx rfl (pc0 := 22) (pc' := 26) rfl (hb hby d12_22) (by decide) (by decide) k) ?_
        show Go _ _ _ _ (s₁.setTop (mkF m 26 #[.val (.int x0), .val (.int x1), .val (.int x2), .val (.int x3), .val (.int x4)] [(.int (1 : Int32))]))
        exact leafN X0 hx (t := .boolean) hret (by simp) hlk (w := (1 : Int32)) rfl (hb hby d12_26) ⟨by rw [own_inn, if_pos ⟨Or.inr hc6, hc7⟩], e0, rfl⟩ (by decide) (by decide)
    · refine Go.step (fun _ k => XS.icmpYes X0.here hx rfl (pc0 := 12) (pc' := 25) rfl (hb hby d12_12) rfl (feq hc6).2 (by decide) (by decide) k) ?_
      show Go _ _ _ _ (s₁.setTop (mkF m 25 #[.val (.int x0), .val (.int x1), .val (.int x2), .val (.int x3), .val (.int x4)] []))
      refine Go.step (fun _ k => XS.iconst X0.here hx rfl (hb hby d12_25) k) ?_
      show Go _ _ _ _ (s₁.setTop (mkF m 26 #[.val (.int x0), .val (.int x1), .val (.int x2), .val (.int x3), .val (.int x4)] [(.int (0 : Int32))]))
      exact leafN X0 hx (t := .boolean) hret (by simp) hlk (w := (0 : Int32)) rfl (hb hby d12_26) ⟨by rw [own_inn, if_neg (fun q => q.1.elim (fun z => hc1 z.1) hc6)], e0, rfl⟩ (by decide) (by decide)
theorem d13_0 : decode jdk_29_method_69_code 0 = .ok (.iload_n 0, 1) := by decide +kernel
theorem d13_1 : decode jdk_29_method_69_code 1 = .ok (.iload_n 1, 1) := by decide +kernel
theorem d13_2 : decode jdk_29_method_69_code 2 = .ok (.if_icmp .gt 7, 3) := by decide +kernel
theorem d13_5 : decode jdk_29_method_69_code 5 = .ok (.iload_n 0, 1) := by decide +kernel
theorem d13_6 : decode jdk_29_method_69_code 6 = .ok (.goto 4, 3) := by decide +kernel
theorem d13_9 : decode jdk_29_method_69_code 9 = .ok (.iload_n 1, 1) := by decide +kernel
theorem d13_10 : decode jdk_29_method_69_code 10 = .ok (.ireturn, 1) := by decide +kernel
theorem pn13 : plainFor (⟨"java/lang/Math", "min", "(II)I"⟩ : MethodName) = true := Jvm.Free.JP.mathPlain rfl (by decide +kernel)
theorem pd13 : parseMethodDescriptor "(II)I" = some ⟨[.int, .int], some .int⟩ := by decide +kernel
theorem ef13 (m : MethodId) (x0 : Int32) (x1 : Int32) : entryFrame m #[(.int x0), (.int x1)] 2 = mkF m 0 #[.val (.int x0), .val (.int x1)] [] := by first | (simp [entryFrame, mkF, argsToLocals, Value.category]; done) | rfl
set_option maxRecDepth 65536 in
set_option maxHeartbeats 40000000 in
theorem rm13 (l : Launch) (Z : State) (a0 : Array Value) (hw : ∀ d ∈ tables_1, d.before a0 Z = true) (ws : List Jvm.Cond) (x0 : Int32) (x1 : Int32) (h0 : Heap) : Con l Z (⟨"java/lang/Math", "min", "(II)I"⟩ : MethodName) jdk_29_method_69_code 2 (some .int) ws ({ frames := 0, cells := 0, slots := 0, locals := 0 } : Room) #[(.int x0), (.int x1)] h0 (fun v h L => v = some (.int (own_min x0 x1)) ∧ h = h0 ∧ L = []) := by
  refine Con.of pn13 fun p e s m below meth c s₁ hZ hx hby hml hown hret hlk hnm X0 e0 => ?_
  rw [ef13]
  show Go _ _ _ _ (s₁.setTop (mkF m 0 #[.val (.int x0), .val (.int x1)] []))
  refine Go.step (fun _ k => XS.iloadN X0.here hx rfl (hb hby d13_0) rfl k) ?_
  show Go _ _ _ _ (s₁.setTop (mkF m 1 #[.val (.int x0), .val (.int x1)] [(.int x0)]))
  refine Go.step (fun _ k => XS.iloadN X0.here hx rfl (hb hby d13_1) rfl k) ?_
  show Go _ _ _ _ (s₁.setTop (mkF m 2 #[.val (.int x0), .val (.int x1)] [(.int x1), (.int x0)]))
  by_cases hc1 : x1 < x0
  · refine Go.step (fun _ k => XS.icmpYes X0.here hx rfl (pc0 := 2) (pc' := 9) rfl (hb hby d13_2) rfl (tlt hc1).2.2.1 (by decide) (by decide) k) ?_
    show Go _ _ _ _ (s₁.setTop (mkF m 9 #[.val (.int x0), .val (.int x1)] []))
    refine Go.step (fun _ k => XS.iloadN X0.here hx rfl (hb hby d13_9) rfl k) ?_
    show Go _ _ _ _ (s₁.setTop (mkF m 10 #[.val (.int x0), .val (.int x1)] [(.int x1)]))
    exact leafI X0 hx hret hlk (hb hby d13_10) ⟨by rw [own_min, if_pos hc1], e0, rfl⟩ (by decide) (by decide)
  · refine Go.step (fun _ k => XS.icmpNo X0.here hx rfl (hb hby d13_2) rfl (flt hc1).2.2.1 k) ?_
    show Go _ _ _ _ (s₁.setTop (mkF m 5 #[.val (.int x0), .val (.int x1)] []))
    refine Go.step (fun _ k => XS.iloadN X0.here hx rfl (hb hby d13_5) rfl k) ?_
    show Go _ _ _ _ (s₁.setTop (mkF m 6 #[.val (.int x0), .val (.int x1)] [(.int x0)]))
    refine Go.step (fun _ k => XS.goto X0.here hx rfl (pc0 := 6) (pc' := 10) rfl (hb hby d13_6) (by decide) (by decide) k) ?_
    show Go _ _ _ _ (s₁.setTop (mkF m 10 #[.val (.int x0), .val (.int x1)] [(.int x0)]))
    exact leafI X0 hx hret hlk (hb hby d13_10) ⟨by rw [own_min, if_neg hc1], e0, rfl⟩ (by decide) (by decide)
def own_up (x a b c d : Int32) : Int32 := if own_inn x a b c d = 0 then x else x + 1
def own_ref (x a b c d k : Int32) : Int32 := own_min (own_up (own_up x a b c d) a b c d) k
theorem d11_0 : decode method_3_code 0 = .ok (.iload_n 0, 1) := by decide +kernel
theorem d11_1 : decode method_3_code 1 = .ok (.istore 6, 2) := by decide +kernel
theorem d11_3 : decode method_3_code 3 = .ok (.iload 6, 2) := by decide +kernel
theorem d11_5 : decode method_3_code 5 = .ok (.iload_n 1, 1) := by decide +kernel
theorem d11_6 : decode method_3_code 6 = .ok (.iload_n 2, 1) := by decide +kernel
theorem d11_7 : decode method_3_code 7 = .ok (.iload_n 3, 1) := by decide +kernel
theorem d11_8 : decode method_3_code 8 = .ok (.iload 4, 2) := by decide +kernel
theorem d11_10 : decode method_3_code 10 = .ok (.invokestatic 7, 3) := by decide +kernel
theorem d11_13 : decode method_3_code 13 = .ok (.ifCond .eq 6, 3) := by decide +kernel
theorem d11_16 : decode method_3_code 16 = .ok (.iinc 6 1, 3) := by decide +kernel
theorem d11_19 : decode method_3_code 19 = .ok (.iload 6, 2) := by decide +kernel
theorem d11_21 : decode method_3_code 21 = .ok (.iload_n 1, 1) := by decide +kernel
theorem d11_22 : decode method_3_code 22 = .ok (.iload_n 2, 1) := by decide +kernel
theorem d11_23 : decode method_3_code 23 = .ok (.iload_n 3, 1) := by decide +kernel
theorem d11_24 : decode method_3_code 24 = .ok (.iload 4, 2) := by decide +kernel
theorem d11_26 : decode method_3_code 26 = .ok (.invokestatic 7, 3) := by decide +kernel
theorem d11_29 : decode method_3_code 29 = .ok (.ifCond .eq 6, 3) := by decide +kernel
theorem d11_32 : decode method_3_code 32 = .ok (.iinc 6 1, 3) := by decide +kernel
theorem d11_35 : decode method_3_code 35 = .ok (.iload 6, 2) := by decide +kernel
theorem d11_37 : decode method_3_code 37 = .ok (.iload 5, 2) := by decide +kernel
theorem d11_39 : decode method_3_code 39 = .ok (.invokestatic 13, 3) := by decide +kernel
theorem d11_42 : decode method_3_code 42 = .ok (.ireturn, 1) := by decide +kernel
theorem pn11 : plainFor (⟨"com/example/prefix_scope/prefixscope/NumberSetRemovePinLaw", "ref", "(IIIIII)I"⟩ : MethodName) = true := plainFor_of_name (by first | (simp [plainName, overriddenIn]; done) | decide +kernel)
theorem pd11 : parseMethodDescriptor "(IIIIII)I" = some ⟨[.int, .int, .int, .int, .int, .int], some .int⟩ := by decide +kernel
theorem ef11 (m : MethodId) (x0 : Int32) (x1 : Int32) (x2 : Int32) (x3 : Int32) (x4 : Int32) (x5 : Int32) : entryFrame m #[(.int x0), (.int x1), (.int x2), (.int x3), (.int x4), (.int x5)] 7 = mkF m 0 #[.val (.int x0), .val (.int x1), .val (.int x2), .val (.int x3), .val (.int x4), .val (.int x5), .unset] [] := by first | (simp [entryFrame, mkF, argsToLocals, Value.category]; done) | rfl
set_option maxRecDepth 65536 in
set_option maxHeartbeats 40000000 in
theorem rm11 (l : Launch) (Z : State) (a0 : Array Value) (hw : ∀ d ∈ tables_1, d.before a0 Z = true) (ws : List Jvm.Cond) (x0 : Int32) (x1 : Int32) (x2 : Int32) (x3 : Int32) (x4 : Int32) (x5 : Int32) (h0 : Heap) : Con l Z (⟨"com/example/prefix_scope/prefixscope/NumberSetRemovePinLaw", "ref", "(IIIIII)I"⟩ : MethodName) method_3_code 7 (some .int) ws ({ frames := 1, cells := 0, slots := 0, locals := 18 } : Room) #[(.int x0), (.int x1), (.int x2), (.int x3), (.int x4), (.int x5)] h0 (fun v h L => v = some (.int (own_ref x0 x1 x2 x3 x4 x5)) ∧ h = h0 ∧ L = []) := by
  refine Con.of pn11 fun p e s m below meth c s₁ hZ hx hby hml hown hret hlk hnm X0 e0 => ?_
  rw [ef11]
  show Go _ _ _ _ (s₁.setTop (mkF m 0 #[.val (.int x0), .val (.int x1), .val (.int x2), .val (.int x3), .val (.int x4), .val (.int x5), .unset] []))
  refine Go.step (fun _ k => XS.iloadN X0.here hx rfl (hb hby d11_0) rfl k) ?_
  show Go _ _ _ _ (s₁.setTop (mkF m 1 #[.val (.int x0), .val (.int x1), .val (.int x2), .val (.int x3), .val (.int x4), .val (.int x5), .unset] [(.int x0)]))
  refine Go.step (fun _ k => XS.istore X0.here hx rfl (hb hby d11_1) rfl (l' := #[.val (.int x0), .val (.int x1), .val (.int x2), .val (.int x3), .val (.int x4), .val (.int x5), .val (.int x0)]) rfl k) ?_
  show Go _ _ _ _ (s₁.setTop (mkF m 3 #[.val (.int x0), .val (.int x1), .val (.int x2), .val (.int x3), .val (.int x4), .val (.int x5), .val (.int x0)] []))
  refine Go.step (fun _ k => XS.iload X0.here hx rfl (hb hby d11_3) rfl k) ?_
  show Go _ _ _ _ (s₁.setTop (mkF m 5 #[.val (.int x0), .val (.int x1), .val (.int x2), .val (.int x3), .val (.int x4), .val (.int x5), .val (.int x0)] [(.int x0)]))
  refine Go.step (fun _ k => XS.iloadN X0.here hx rfl (hb hby d11_5) rfl k) ?_
  show Go _ _ _ _ (s₁.setTop (mkF m 6 #[.val (.int x0), .val (.int x1), .val (.int x2), .val (.int x3), .val (.int x4), .val (.int x5), .val (.int x0)] [(.int x1), (.int x0)]))
  refine Go.step (fun _ k => XS.iloadN X0.here hx rfl (hb hby d11_6) rfl k) ?_
  show Go _ _ _ _ (s₁.setTop (mkF m 7 #[.val (.int x0), .val (.int x1), .val (.int x2), .val (.int x3), .val (.int x4), .val (.int x5), .val (.int x0)] [(.int x2), (.int x1), (.int x0)]))
  refine Go.step (fun _ k => XS.iloadN X0.here hx rfl (hb hby d11_7) rfl k) ?_
  show Go _ _ _ _ (s₁.setTop (mkF m 8 #[.val (.int x0), .val (.int x1), .val (.int x2), .val (.int x3), .val (.int x4), .val (.int x5), .val (.int x0)] [(.int x3), (.int x2), (.int x1), (.int x0)]))
  refine Go.step (fun _ k => XS.iload X0.here hx rfl (hb hby d11_8) rfl k) ?_
  show Go _ _ _ _ (s₁.setTop (mkF m 10 #[.val (.int x0), .val (.int x1), .val (.int x2), .val (.int x3), .val (.int x4), .val (.int x5), .val (.int x0)] [(.int x4), (.int x3), (.int x2), (.int x1), (.int x0)]))
  refine goS X0 hx hZ hown (hw _ (List.mem_of_getElem? (i := 60) rfl)) (hw _ (List.mem_of_getElem? (i := 61) rfl)) (hw _ (List.mem_of_getElem? (i := 58) rfl)) (hw _ (List.mem_of_getElem? (i := 62) rfl)) (by decide) (rm12 l Z a0 hw [] x0 x1 x2 x3 x4 h0) e0 (by rw [hml]; rfl) [(.int x0), (.int x1), (.int x2), (.int x3), (.int x4)] [] rfl pd12 rfl rfl 0 rfl (hb hby d11_10) (by decide) (by decide) (by decide) (by decide) fun T1 L1 v1 q1 X1 => ?_
  obtain ⟨rfl, e1, rfl⟩ := q1
  rw [List.append_nil] at X1
  show Go _ _ _ _ (T1.setTop (mkF m 13 #[.val (.int x0), .val (.int x1), .val (.int x2), .val (.int x3), .val (.int x4), .val (.int x5), .val (.int x0)] [(.int (own_inn x0 x1 x2 x3 x4))]))
  by_cases hc2 : (own_inn x0 x1 x2 x3 x4) = (0 : Int32)
  · refine Go.step (fun _ k => XS.ifYes X1.here hx rfl (pc0 := 13) (pc' := 19) rfl (hb hby d11_13) rfl ((if0 _ _).trans (teq hc2).1) (by decide) (by decide) k) ?_
    show Go _ _ _ _ (T1.setTop (mkF m 19 #[.val (.int x0), .val (.int x1), .val (.int x2), .val (.int x3), .val (.int x4), .val (.int x5), .val (.int x0)] []))
    refine Go.step (fun _ k => XS.iload X1.here hx rfl (hb hby d11_19) rfl k) ?_
    show Go _ _ _ _ (T1.setTop (mkF m 21 #[.val (.int x0), .val (.int x1), .val (.int x2), .val (.int x3), .val (.int x4), .val (.int x5), .val (.int x0)] [(.int x0)]))
    refine Go.step (fun _ k => XS.iloadN X1.here hx rfl (hb hby d11_21) rfl k) ?_
    show Go _ _ _ _ (T1.setTop (mkF m 22 #[.val (.int x0), .val (.int x1), .val (.int x2), .val (.int x3), .val (.int x4), .val (.int x5), .val (.int x0)] [(.int x1), (.int x0)]))
    refine Go.step (fun _ k => XS.iloadN X1.here hx rfl (hb hby d11_22) rfl k) ?_
    show Go _ _ _ _ (T1.setTop (mkF m 23 #[.val (.int x0), .val (.int x1), .val (.int x2), .val (.int x3), .val (.int x4), .val (.int x5), .val (.int x0)] [(.int x2), (.int x1), (.int x0)]))
    refine Go.step (fun _ k => XS.iloadN X1.here hx rfl (hb hby d11_23) rfl k) ?_
    show Go _ _ _ _ (T1.setTop (mkF m 24 #[.val (.int x0), .val (.int x1), .val (.int x2), .val (.int x3), .val (.int x4), .val (.int x5), .val (.int x0)] [(.int x3), (.int x2), (.int x1), (.int x0)]))
    refine Go.step (fun _ k => XS.iload X1.here hx rfl (hb hby d11_24) rfl k) ?_
    show Go _ _ _ _ (T1.setTop (mkF m 26 #[.val (.int x0), .val (.int x1), .val (.int x2), .val (.int x3), .val (.int x4), .val (.int x5), .val (.int x0)] [(.int x4), (.int x3), (.int x2), (.int x1), (.int x0)]))
    refine goS X1 hx hZ hown (hw _ (List.mem_of_getElem? (i := 60) rfl)) (hw _ (List.mem_of_getElem? (i := 61) rfl)) (hw _ (List.mem_of_getElem? (i := 58) rfl)) (hw _ (List.mem_of_getElem? (i := 62) rfl)) (by decide) (rm12 l Z a0 hw [] x0 x1 x2 x3 x4 h0) e1 (by rw [hml]; rfl) [(.int x0), (.int x1), (.int x2), (.int x3), (.int x4)] [] rfl pd12 rfl rfl 0 rfl (hb hby d11_26) (by decide) (by decide) (by decide) (by decide) fun T3 L3 v3 q3 X3 => ?_
    obtain ⟨rfl, e3, rfl⟩ := q3
    rw [List.append_nil] at X3
    show Go _ _ _ _ (T3.setTop (mkF m 29 #[.val (.int x0), .val (.int x1), .val (.int x2), .val (.int x3), .val (.int x4), .val (.int x5), .val (.int x0)] [(.int (own_inn x0 x1 x2 x3 x4))]))
    by_cases hc4 : (own_inn x0 x1 x2 x3 x4) = (0 : Int32)
    · refine Go.step (fun _ k => XS.ifYes X3.here hx rfl (pc0 := 29) (pc' := 35) rfl (hb hby d11_29) rfl ((if0 _ _).trans (teq hc4).1) (by decide) (by decide) k) ?_
      show Go _ _ _ _ (T3.setTop (mkF m 35 #[.val (.int x0), .val (.int x1), .val (.int x2), .val (.int x3), .val (.int x4), .val (.int x5), .val (.int x0)] []))
      refine Go.step (fun _ k => XS.iload X3.here hx rfl (hb hby d11_35) rfl k) ?_
      show Go _ _ _ _ (T3.setTop (mkF m 37 #[.val (.int x0), .val (.int x1), .val (.int x2), .val (.int x3), .val (.int x4), .val (.int x5), .val (.int x0)] [(.int x0)]))
      refine Go.step (fun _ k => XS.iload X3.here hx rfl (hb hby d11_37) rfl k) ?_
      show Go _ _ _ _ (T3.setTop (mkF m 39 #[.val (.int x0), .val (.int x1), .val (.int x2), .val (.int x3), .val (.int x4), .val (.int x5), .val (.int x0)] [(.int x5), (.int x0)]))
      refine goS X3 hx hZ hown (hw _ (List.mem_of_getElem? (i := 63) rfl)) (hw _ (List.mem_of_getElem? (i := 64) rfl)) (hw _ (List.mem_of_getElem? (i := 65) rfl)) (hw _ (List.mem_of_getElem? (i := 66) rfl)) (by decide) (rm13 l Z a0 hw [] x0 x5 h0) e3 (by rw [hml]; rfl) [(.int x0), (.int x5)] [] rfl pd13 rfl rfl 0 rfl (hb hby d11_39) (by decide) (by decide) (by decide) (by decide) fun T5 L5 v5 q5 X5 => ?_
      obtain ⟨rfl, e5, rfl⟩ := q5
      rw [List.append_nil] at X5
      show Go _ _ _ _ (T5.setTop (mkF m 42 #[.val (.int x0), .val (.int x1), .val (.int x2), .val (.int x3), .val (.int x4), .val (.int x5), .val (.int x0)] [(.int (own_min x0 x5))]))
      have u1 : own_up x0 x1 x2 x3 x4 = x0 := by rw [own_up, if_pos hc2]
      have u2 : own_up (x0) x1 x2 x3 x4 = x0 := by rw [own_up, if_pos hc4]
      exact leafI X5 hx hret hlk (hb hby d11_42) ⟨by rw [own_ref, u1, u2], e5, rfl⟩ (by decide) (by decide)
    · refine Go.step (fun _ k => XS.ifNo X3.here hx rfl (hb hby d11_29) rfl ((if0 _ _).trans (feq hc4).1) k) ?_
      show Go _ _ _ _ (T3.setTop (mkF m 32 #[.val (.int x0), .val (.int x1), .val (.int x2), .val (.int x3), .val (.int x4), .val (.int x5), .val (.int x0)] []))
      refine Go.step (fun _ k => XS.iinc X3.here hx rfl (hb hby d11_32) rfl (l' := #[.val (.int x0), .val (.int x1), .val (.int x2), .val (.int x3), .val (.int x4), .val (.int x5), .val (.int (x0 + (1 : Int32)))]) rfl k) ?_
      show Go _ _ _ _ (T3.setTop (mkF m 35 #[.val (.int x0), .val (.int x1), .val (.int x2), .val (.int x3), .val (.int x4), .val (.int x5), .val (.int (x0 + (1 : Int32)))] []))
      refine Go.step (fun _ k => XS.iload X3.here hx rfl (hb hby d11_35) rfl k) ?_
      show Go _ _ _ _ (T3.setTop (mkF m 37 #[.val (.int x0), .val (.int x1), .val (.int x2), .val (.int x3), .val (.int x4), .val (.int x5), .val (.int (x0 + (1 : Int32)))] [(.int (x0 + (1 : Int32)))]))
      refine Go.step (fun _ k => XS.iload X3.here hx rfl (hb hby d11_37) rfl k) ?_
      show Go _ _ _ _ (T3.setTop (mkF m 39 #[.val (.int x0), .val (.int x1), .val (.int x2), .val (.int x3), .val (.int x4), .val (.int x5), .val (.int (x0 + (1 : Int32)))] [(.int x5), (.int (x0 + (1 : Int32)))]))
      refine goS X3 hx hZ hown (hw _ (List.mem_of_getElem? (i := 63) rfl)) (hw _ (List.mem_of_getElem? (i := 64) rfl)) (hw _ (List.mem_of_getElem? (i := 65) rfl)) (hw _ (List.mem_of_getElem? (i := 66) rfl)) (by decide) (rm13 l Z a0 hw [] (x0 + (1 : Int32)) x5 h0) e3 (by rw [hml]; rfl) [(.int (x0 + (1 : Int32))), (.int x5)] [] rfl pd13 rfl rfl 0 rfl (hb hby d11_39) (by decide) (by decide) (by decide) (by decide) fun T6 L6 v6 q6 X6 => ?_
      obtain ⟨rfl, e6, rfl⟩ := q6
      rw [List.append_nil] at X6
      show Go _ _ _ _ (T6.setTop (mkF m 42 #[.val (.int x0), .val (.int x1), .val (.int x2), .val (.int x3), .val (.int x4), .val (.int x5), .val (.int (x0 + (1 : Int32)))] [(.int (own_min (x0 + (1 : Int32)) x5))]))
      have u1 : own_up x0 x1 x2 x3 x4 = x0 := by rw [own_up, if_pos hc2]
      have u2 : own_up (x0) x1 x2 x3 x4 = x0 + 1 := by rw [own_up, if_neg hc4]
      exact leafI X6 hx hret hlk (hb hby d11_42) ⟨by rw [own_ref, u1, u2], e6, rfl⟩ (by decide) (by decide)
  · refine Go.step (fun _ k => XS.ifNo X1.here hx rfl (hb hby d11_13) rfl ((if0 _ _).trans (feq hc2).1) k) ?_
    show Go _ _ _ _ (T1.setTop (mkF m 16 #[.val (.int x0), .val (.int x1), .val (.int x2), .val (.int x3), .val (.int x4), .val (.int x5), .val (.int x0)] []))
    refine Go.step (fun _ k => XS.iinc X1.here hx rfl (hb hby d11_16) rfl (l' := #[.val (.int x0), .val (.int x1), .val (.int x2), .val (.int x3), .val (.int x4), .val (.int x5), .val (.int (x0 + (1 : Int32)))]) rfl k) ?_
    show Go _ _ _ _ (T1.setTop (mkF m 19 #[.val (.int x0), .val (.int x1), .val (.int x2), .val (.int x3), .val (.int x4), .val (.int x5), .val (.int (x0 + (1 : Int32)))] []))
    refine Go.step (fun _ k => XS.iload X1.here hx rfl (hb hby d11_19) rfl k) ?_
    show Go _ _ _ _ (T1.setTop (mkF m 21 #[.val (.int x0), .val (.int x1), .val (.int x2), .val (.int x3), .val (.int x4), .val (.int x5), .val (.int (x0 + (1 : Int32)))] [(.int (x0 + (1 : Int32)))]))
    refine Go.step (fun _ k => XS.iloadN X1.here hx rfl (hb hby d11_21) rfl k) ?_
    show Go _ _ _ _ (T1.setTop (mkF m 22 #[.val (.int x0), .val (.int x1), .val (.int x2), .val (.int x3), .val (.int x4), .val (.int x5), .val (.int (x0 + (1 : Int32)))] [(.int x1), (.int (x0 + (1 : Int32)))]))
    refine Go.step (fun _ k => XS.iloadN X1.here hx rfl (hb hby d11_22) rfl k) ?_
    show Go _ _ _ _ (T1.setTop (mkF m 23 #[.val (.int x0), .val (.int x1), .val (.int x2), .val (.int x3), .val (.int x4), .val (.int x5), .val (.int (x0 + (1 : Int32)))] [(.int x2), (.int x1), (.int (x0 + (1 : Int32)))]))
    refine Go.step (fun _ k => XS.iloadN X1.here hx rfl (hb hby d11_23) rfl k) ?_
    show Go _ _ _ _ (T1.setTop (mkF m 24 #[.val (.int x0), .val (.int x1), .val (.int x2), .val (.int x3), .val (.int x4), .val (.int x5), .val (.int (x0 + (1 : Int32)))] [(.int x3), (.int x2), (.int x1), (.int (x0 + (1 : Int32)))]))
    refine Go.step (fun _ k => XS.iload X1.here hx rfl (hb hby d11_24) rfl k) ?_
    show Go _ _ _ _ (T1.setTop (mkF m 26 #[.val (.int x0), .val (.int x1), .val (.int x2), .val (.int x3), .val (.int x4), .val (.int x5), .val (.int (x0 + (1 : Int32)))] [(.int x4), (.int x3), (.int x2), (.int x1), (.int (x0 + (1 : Int32)))]))
    refine goS X1 hx hZ hown (hw _ (List.mem_of_getElem? (i := 60) rfl)) (hw _ (List.mem_of_getElem? (i := 61) rfl)) (hw _ (List.mem_of_getElem? (i := 58) rfl)) (hw _ (List.mem_of_getElem? (i := 62) rfl)) (by decide) (rm12 l Z a0 hw [] (x0 + (1 : Int32)) x1 x2 x3 x4 h0) e1 (by rw [hml]; rfl) [(.int (x0 + (1 : Int32))), (.int x1), (.int x2), (.int x3), (.int x4)] [] rfl pd12 rfl rfl 0 rfl (hb hby d11_26) (by decide) (by decide) (by decide) (by decide) fun T7 L7 v7 q7 X7 => ?_
    obtain ⟨rfl, e7, rfl⟩ := q7
    rw [List.append_nil] at X7
    show Go _ _ _ _ (T7.setTop (mkF m 29 #[.val (.int x0), .val (.int x1), .val (.int x2), .val (.int x3), .val (.int x4), .val (.int x5), .val (.int (x0 + (1 : Int32)))] [(.int (own_inn (x0 + (1 : Int32)) x1 x2 x3 x4))]))
    by_cases hc8 : (own_inn (x0 + (1 : Int32)) x1 x2 x3 x4) = (0 : Int32)
    · refine Go.step (fun _ k => XS.ifYes X7.here hx rfl (pc0 := 29) (pc' := 35) rfl (hb hby d11_29) rfl ((if0 _ _).trans (teq hc8).1) (by decide) (by decide) k) ?_
      show Go _ _ _ _ (T7.setTop (mkF m 35 #[.val (.int x0), .val (.int x1), .val (.int x2), .val (.int x3), .val (.int x4), .val (.int x5), .val (.int (x0 + (1 : Int32)))] []))
      refine Go.step (fun _ k => XS.iload X7.here hx rfl (hb hby d11_35) rfl k) ?_
      show Go _ _ _ _ (T7.setTop (mkF m 37 #[.val (.int x0), .val (.int x1), .val (.int x2), .val (.int x3), .val (.int x4), .val (.int x5), .val (.int (x0 + (1 : Int32)))] [(.int (x0 + (1 : Int32)))]))
      refine Go.step (fun _ k => XS.iload X7.here hx rfl (hb hby d11_37) rfl k) ?_
      show Go _ _ _ _ (T7.setTop (mkF m 39 #[.val (.int x0), .val (.int x1), .val (.int x2), .val (.int x3), .val (.int x4), .val (.int x5), .val (.int (x0 + (1 : Int32)))] [(.int x5), (.int (x0 + (1 : Int32)))]))
      refine goS X7 hx hZ hown (hw _ (List.mem_of_getElem? (i := 63) rfl)) (hw _ (List.mem_of_getElem? (i := 64) rfl)) (hw _ (List.mem_of_getElem? (i := 65) rfl)) (hw _ (List.mem_of_getElem? (i := 66) rfl)) (by decide) (rm13 l Z a0 hw [] (x0 + (1 : Int32)) x5 h0) e7 (by rw [hml]; rfl) [(.int (x0 + (1 : Int32))), (.int x5)] [] rfl pd13 rfl rfl 0 rfl (hb hby d11_39) (by decide) (by decide) (by decide) (by decide) fun T9 L9 v9 q9 X9 => ?_
      obtain ⟨rfl, e9, rfl⟩ := q9
      rw [List.append_nil] at X9
      show Go _ _ _ _ (T9.setTop (mkF m 42 #[.val (.int x0), .val (.int x1), .val (.int x2), .val (.int x3), .val (.int x4), .val (.int x5), .val (.int (x0 + (1 : Int32)))] [(.int (own_min (x0 + (1 : Int32)) x5))]))
      have u1 : own_up x0 x1 x2 x3 x4 = x0 + 1 := by rw [own_up, if_neg hc2]
      have u2 : own_up (x0 + 1) x1 x2 x3 x4 = x0 + 1 := by rw [own_up, if_pos hc8]
      exact leafI X9 hx hret hlk (hb hby d11_42) ⟨by rw [own_ref, u1, u2], e9, rfl⟩ (by decide) (by decide)
    · refine Go.step (fun _ k => XS.ifNo X7.here hx rfl (hb hby d11_29) rfl ((if0 _ _).trans (feq hc8).1) k) ?_
      show Go _ _ _ _ (T7.setTop (mkF m 32 #[.val (.int x0), .val (.int x1), .val (.int x2), .val (.int x3), .val (.int x4), .val (.int x5), .val (.int (x0 + (1 : Int32)))] []))
      refine Go.step (fun _ k => XS.iinc X7.here hx rfl (hb hby d11_32) rfl (l' := #[.val (.int x0), .val (.int x1), .val (.int x2), .val (.int x3), .val (.int x4), .val (.int x5), .val (.int ((x0 + (1 : Int32)) + (1 : Int32)))]) rfl k) ?_
      show Go _ _ _ _ (T7.setTop (mkF m 35 #[.val (.int x0), .val (.int x1), .val (.int x2), .val (.int x3), .val (.int x4), .val (.int x5), .val (.int ((x0 + (1 : Int32)) + (1 : Int32)))] []))
      refine Go.step (fun _ k => XS.iload X7.here hx rfl (hb hby d11_35) rfl k) ?_
      show Go _ _ _ _ (T7.setTop (mkF m 37 #[.val (.int x0), .val (.int x1), .val (.int x2), .val (.int x3), .val (.int x4), .val (.int x5), .val (.int ((x0 + (1 : Int32)) + (1 : Int32)))] [(.int ((x0 + (1 : Int32)) + (1 : Int32)))]))
      refine Go.step (fun _ k => XS.iload X7.here hx rfl (hb hby d11_37) rfl k) ?_
      show Go _ _ _ _ (T7.setTop (mkF m 39 #[.val (.int x0), .val (.int x1), .val (.int x2), .val (.int x3), .val (.int x4), .val (.int x5), .val (.int ((x0 + (1 : Int32)) + (1 : Int32)))] [(.int x5), (.int ((x0 + (1 : Int32)) + (1 : Int32)))]))
      refine goS X7 hx hZ hown (hw _ (List.mem_of_getElem? (i := 63) rfl)) (hw _ (List.mem_of_getElem? (i := 64) rfl)) (hw _ (List.mem_of_getElem? (i := 65) rfl)) (hw _ (List.mem_of_getElem? (i := 66) rfl)) (by decide) (rm13 l Z a0 hw [] ((x0 + (1 : Int32)) + (1 : Int32)) x5 h0) e7 (by rw [hml]; rfl) [(.int ((x0 + (1 : Int32)) + (1 : Int32))), (.int x5)] [] rfl pd13 rfl rfl 0 rfl (hb hby d11_39) (by decide) (by decide) (by decide) (by decide) fun T10 L10 v10 q10 X10 => ?_
      obtain ⟨rfl, e10, rfl⟩ := q10
      rw [List.append_nil] at X10
      show Go _ _ _ _ (T10.setTop (mkF m 42 #[.val (.int x0), .val (.int x1), .val (.int x2), .val (.int x3), .val (.int x4), .val (.int x5), .val (.int ((x0 + (1 : Int32)) + (1 : Int32)))] [(.int (own_min ((x0 + (1 : Int32)) + (1 : Int32)) x5))]))
      have u1 : own_up x0 x1 x2 x3 x4 = x0 + 1 := by rw [own_up, if_neg hc2]
      have u2 : own_up (x0 + 1) x1 x2 x3 x4 = x0 + 1 + 1 := by rw [own_up, if_neg hc8]
      exact leafI X10 hx hret hlk (hb hby d11_42) ⟨by rw [own_ref, u1, u2], e10, rfl⟩ (by decide) (by decide)
theorem d6_0 : decode prog_9_method_7_code 0 = .ok (.iload_n 1, 1) := by decide +kernel
theorem d6_1 : decode prog_9_method_7_code 1 = .ok (.istore_n 3, 1) := by decide +kernel
theorem d6_2 : decode prog_9_method_7_code 2 = .ok (.iload_n 3, 1) := by decide +kernel
theorem d6_3 : decode prog_9_method_7_code 3 = .ok (.aload_n 0, 1) := by decide +kernel
theorem d6_4 : decode prog_9_method_7_code 4 = .ok (.getfield 15, 3) := by decide +kernel
theorem d6_7 : decode prog_9_method_7_code 7 = .ok (.arraylength, 1) := by decide +kernel
theorem d6_8 : decode prog_9_method_7_code 8 = .ok (.if_icmp .ge 66, 3) := by decide +kernel
theorem d6_11 : decode prog_9_method_7_code 11 = .ok (.aload_n 0, 1) := by decide +kernel
theorem d6_12 : decode prog_9_method_7_code 12 = .ok (.getfield 15, 3) := by decide +kernel
theorem d6_15 : decode prog_9_method_7_code 15 = .ok (.iload_n 3, 1) := by decide +kernel
theorem d6_16 : decode prog_9_method_7_code 16 = .ok (.aaload, 1) := by decide +kernel
theorem d6_17 : decode prog_9_method_7_code 17 = .ok (.astore 4, 2) := by decide +kernel
theorem d6_19 : decode prog_9_method_7_code 19 = .ok (.iload_n 2, 1) := by decide +kernel
theorem d6_20 : decode prog_9_method_7_code 20 = .ok (.bipush 6, 2) := by decide +kernel
theorem d6_22 : decode prog_9_method_7_code 22 = .ok (.iushr, 1) := by decide +kernel
theorem d6_23 : decode prog_9_method_7_code 23 = .ok (.istore 5, 2) := by decide +kernel
theorem d6_25 : decode prog_9_method_7_code 25 = .ok (.aload 4, 2) := by decide +kernel
theorem d6_27 : decode prog_9_method_7_code 27 = .ok (.iload 5, 2) := by decide +kernel
theorem d6_29 : decode prog_9_method_7_code 29 = .ok (.laload, 1) := by decide +kernel
theorem d6_30 : decode prog_9_method_7_code 30 = .ok (.lstore 6, 2) := by decide +kernel
theorem d6_32 : decode prog_9_method_7_code 32 = .ok (.aload 4, 2) := by decide +kernel
theorem d6_34 : decode prog_9_method_7_code 34 = .ok (.iload 5, 2) := by decide +kernel
theorem d6_36 : decode prog_9_method_7_code 36 = .ok (.lload 6, 2) := by decide +kernel
theorem d6_38 : decode prog_9_method_7_code 38 = .ok (.lconst 1, 1) := by decide +kernel
theorem d6_39 : decode prog_9_method_7_code 39 = .ok (.iload_n 2, 1) := by decide +kernel
theorem d6_40 : decode prog_9_method_7_code 40 = .ok (.lshl, 1) := by decide +kernel
theorem d6_41 : decode prog_9_method_7_code 41 = .ok (.lor, 1) := by decide +kernel
theorem d6_42 : decode prog_9_method_7_code 42 = .ok (.lastore, 1) := by decide +kernel
theorem d6_43 : decode prog_9_method_7_code 43 = .ok (.lload 6, 2) := by decide +kernel
theorem d6_45 : decode prog_9_method_7_code 45 = .ok (.ldc2_w 26, 3) := by decide +kernel
theorem d6_48 : decode prog_9_method_7_code 48 = .ok (.lcmp, 1) := by decide +kernel
theorem d6_49 : decode prog_9_method_7_code 49 = .ok (.ifCond .eq 15, 3) := by decide +kernel
theorem d6_52 : decode prog_9_method_7_code 52 = .ok (.aload 4, 2) := by decide +kernel
theorem d6_54 : decode prog_9_method_7_code 54 = .ok (.iload 5, 2) := by decide +kernel
theorem d6_56 : decode prog_9_method_7_code 56 = .ok (.laload, 1) := by decide +kernel
theorem d6_57 : decode prog_9_method_7_code 57 = .ok (.ldc2_w 26, 3) := by decide +kernel
theorem d6_60 : decode prog_9_method_7_code 60 = .ok (.lcmp, 1) := by decide +kernel
theorem d6_61 : decode prog_9_method_7_code 61 = .ok (.ifCond .eq 4, 3) := by decide +kernel
theorem d6_64 : decode prog_9_method_7_code 64 = .ok (.return_, 1) := by decide +kernel
theorem d6_65 : decode prog_9_method_7_code 65 = .ok (.iload 5, 2) := by decide +kernel
theorem d6_67 : decode prog_9_method_7_code 67 = .ok (.istore_n 2, 1) := by decide +kernel
theorem d6_68 : decode prog_9_method_7_code 68 = .ok (.iinc 3 1, 3) := by decide +kernel
theorem d6_71 : decode prog_9_method_7_code 71 = .ok (.goto (-69), 3) := by decide +kernel
theorem d6_74 : decode prog_9_method_7_code 74 = .ok (.return_, 1) := by decide +kernel
theorem pn6 : plainFor (⟨"com/example/prefix_scope/prefixscope/NumberSet", "fill", "(II)V"⟩ : MethodName) = true := plainFor_of_name (by first | (simp [plainName, overriddenIn]; done) | decide +kernel)
theorem pd6 : parseMethodDescriptor "(II)V" = some ⟨[.int, .int], none⟩ := by decide +kernel
theorem ef6 (m : MethodId) (o : Addr) (x1 x2 : Int32) : entryFrame m #[(.ref o), (.int x1), (.int x2)] 8 = mkF m 0 #[.val (.ref o), .val (.int x1), .val (.int x2), .unset, .unset, .unset, .unset, .unset] [] := by first | (simp [entryFrame, mkF, argsToLocals, Value.category]; done) | rfl
set_option maxRecDepth 65536 in
set_option maxHeartbeats 40000000 in
theorem rm6 (l : Launch) (Z : State) (a0 : Array Value) (hw : ∀ d ∈ tables_1, d.before a0 Z = true) (ws : List Jvm.Cond)  (h0 : Heap) (o tl t : Addr) (lv n M : Nat) (cT : Cell) (g : Nat → Bool) (hsz : cT.slots.size ≤ 2) (hlv : lv < cT.slots.size) (hcT : cT.slots[lv]? = some (.ref t)) (FL : Fld Z h0 o "com/example/prefix_scope/prefixscope/NumberSet" "levels" "[[J" (.ref tl)) (AT : Arr Z h0 tl cT (.array .long)) (HL : Lv Z h0 t M g) (hn : n < 64 * M) (hM : M ≤ 4) (hR : ∃ j, j < 64 ∧ (fun y => g y || decide (y = n)) (64 * (n / 64) + j) = false) (n0 : Nat) (gt : n0 ≤ t) : Con l Z (⟨"com/example/prefix_scope/prefixscope/NumberSet", "fill", "(II)V"⟩ : MethodName) prog_9_method_7_code 8 none ws ({ frames := 0, cells := 0, slots := 0, locals := 0 } : Room) #[(.ref o), (.int (Int32.ofNat lv)), (.int (Int32.ofNat n))] h0 (fun v h L => v = none ∧ Fr n0 L ∧ Keep h0 h [t] ∧ Lv Z h t M (fun y => g y || decide (y = n))) := by
  refine Con.of pn6 fun p e s m below meth c s₁ hZ hx hby hml hown hret hlk hnm X0 e0 => ?_
  rw [ef6]
  show Go _ _ _ _ (s₁.setTop (mkF m 0 #[.val (.ref o), .val (.int (Int32.ofNat lv)), .val (.int (Int32.ofNat n)), .unset, .unset, .unset, .unset, .unset] []))
  refine Go.step (fun _ k => XS.iloadN X0.here hx rfl (hb hby d6_0) rfl k) ?_
  show Go _ _ _ _ (s₁.setTop (mkF m 1 #[.val (.ref o), .val (.int (Int32.ofNat lv)), .val (.int (Int32.ofNat n)), .unset, .unset, .unset, .unset, .unset] [(.int (Int32.ofNat lv))]))
  refine Go.step (fun _ k => XS.istoreN X0.here hx rfl (hb hby d6_1) rfl (l' := #[.val (.ref o), .val (.int (Int32.ofNat lv)), .val (.int (Int32.ofNat n)), .val (.int (Int32.ofNat lv)), .unset, .unset, .unset, .unset]) rfl k) ?_
  show Go _ _ _ _ (s₁.setTop (mkF m 2 #[.val (.ref o), .val (.int (Int32.ofNat lv)), .val (.int (Int32.ofNat n)), .val (.int (Int32.ofNat lv)), .unset, .unset, .unset, .unset] []))
  refine Go.step (fun _ k => XS.iloadN X0.here hx rfl (hb hby d6_2) rfl k) ?_
  show Go _ _ _ _ (s₁.setTop (mkF m 3 #[.val (.ref o), .val (.int (Int32.ofNat lv)), .val (.int (Int32.ofNat n)), .val (.int (Int32.ofNat lv)), .unset, .unset, .unset, .unset] [(.int (Int32.ofNat lv))]))
  refine Go.step (fun _ k => XS.aloadN X0.here hx rfl (hb hby d6_3) rfl rfl k) ?_
  show Go _ _ _ _ (s₁.setTop (mkF m 4 #[.val (.ref o), .val (.int (Int32.ofNat lv)), .val (.int (Int32.ofNat n)), .val (.int (Int32.ofNat lv)), .unset, .unset, .unset, .unset] [(.ref o), (.int (Int32.ofNat lv))]))
  obtain ⟨T1, X1, e1, st1⟩ := getF X0 hx hZ hown (host := "") (Or.inl (hw _ (List.mem_of_getElem? (i := 14) rfl))) Via.refl e0 FL (g := (mkF m 4 #[.val (.ref o), .val (.int (Int32.ofNat lv)), .val (.int (Int32.ofNat n)), .val (.int (Int32.ofNat lv)), .unset, .unset, .unset, .unset] [(.ref o), (.int (Int32.ofNat lv))])) rfl rfl (hb hby d6_4)
  refine Go.step st1 ?_
  show Go _ _ _ _ (T1.setTop (mkF m 7 #[.val (.ref o), .val (.int (Int32.ofNat lv)), .val (.int (Int32.ofNat n)), .val (.int (Int32.ofNat lv)), .unset, .unset, .unset, .unset] [(.ref tl), (.int (Int32.ofNat lv))]))
  refine Go.step (fun tg k => X1.arraylength hx (by rw [e1]; exact AT.1) (State.isArrayOf_alike hZ.alike AT.2.1) (g := (mkF m 7 #[.val (.ref o), .val (.int (Int32.ofNat lv)), .val (.int (Int32.ofNat n)), .val (.int (Int32.ofNat lv)), .unset, .unset, .unset, .unset] [(.ref tl), (.int (Int32.ofNat lv))])) rfl rfl (hb hby d6_7) tg k) ?_
  show Go _ _ _ _ (T1.setTop (mkF m 8 #[.val (.ref o), .val (.int (Int32.ofNat lv)), .val (.int (Int32.ofNat n)), .val (.int (Int32.ofNat lv)), .unset, .unset, .unset, .unset] [(.int (Int32.ofNat cT.slots.size)), (.int (Int32.ofNat lv))]))
  refine Go.step (fun _ k => XS.icmpNo X1.here hx rfl (hb hby d6_8) rfl (tlt ((own_lt (by omega) (by omega)).mpr hlv)).2.1 k) ?_
  show Go _ _ _ _ (T1.setTop (mkF m 11 #[.val (.ref o), .val (.int (Int32.ofNat lv)), .val (.int (Int32.ofNat n)), .val (.int (Int32.ofNat lv)), .unset, .unset, .unset, .unset] []))
  refine Go.step (fun _ k => XS.aloadN X1.here hx rfl (hb hby d6_11) rfl rfl k) ?_
  show Go _ _ _ _ (T1.setTop (mkF m 12 #[.val (.ref o), .val (.int (Int32.ofNat lv)), .val (.int (Int32.ofNat n)), .val (.int (Int32.ofNat lv)), .unset, .unset, .unset, .unset] [(.ref o)]))
  obtain ⟨T2, X2, e2, st2⟩ := getF X1 hx hZ hown (host := "") (Or.inl (hw _ (List.mem_of_getElem? (i := 14) rfl))) Via.refl e1 FL (g := (mkF m 12 #[.val (.ref o), .val (.int (Int32.ofNat lv)), .val (.int (Int32.ofNat n)), .val (.int (Int32.ofNat lv)), .unset, .unset, .unset, .unset] [(.ref o)])) rfl rfl (hb hby d6_12)
  refine Go.step st2 ?_
  show Go _ _ _ _ (T2.setTop (mkF m 15 #[.val (.ref o), .val (.int (Int32.ofNat lv)), .val (.int (Int32.ofNat n)), .val (.int (Int32.ofNat lv)), .unset, .unset, .unset, .unset] [(.ref tl)]))
  refine Go.step (fun _ k => XS.iloadN X2.here hx rfl (hb hby d6_15) rfl k) ?_
  show Go _ _ _ _ (T2.setTop (mkF m 16 #[.val (.ref o), .val (.int (Int32.ofNat lv)), .val (.int (Int32.ofNat n)), .val (.int (Int32.ofNat lv)), .unset, .unset, .unset, .unset] [(.int (Int32.ofNat lv)), (.ref tl)]))
  refine Go.step (fun tg k => X2.aaload hx (j := (Int32.ofNat lv)) (v := (.ref t)) (by rw [e2]; exact AT.1) (State.isArrayOf_alike hZ.alike AT.2.1) rfl AT.2.2 (own_in hlv (by omega)) (by rw [own_clamp (by omega)]; exact hcT) (g := (mkF m 16 #[.val (.ref o), .val (.int (Int32.ofNat lv)), .val (.int (Int32.ofNat n)), .val (.int (Int32.ofNat lv)), .unset, .unset, .unset, .unset] [(.int (Int32.ofNat lv)), (.ref tl)])) rfl rfl (hb hby d6_16) tg k) ?_
  show Go _ _ _ _ (T2.setTop (mkF m 17 #[.val (.ref o), .val (.int (Int32.ofNat lv)), .val (.int (Int32.ofNat n)), .val (.int (Int32.ofNat lv)), .unset, .unset, .unset, .unset] [(.ref t)]))
  refine Go.step (fun _ k => XS.astore X2.here hx rfl (hb hby d6_17) rfl rfl (l' := #[.val (.ref o), .val (.int (Int32.ofNat lv)), .val (.int (Int32.ofNat n)), .val (.int (Int32.ofNat lv)), .val (.ref t), .unset, .unset, .unset]) rfl k) ?_
  show Go _ _ _ _ (T2.setTop (mkF m 19 #[.val (.ref o), .val (.int (Int32.ofNat lv)), .val (.int (Int32.ofNat n)), .val (.int (Int32.ofNat lv)), .val (.ref t), .unset, .unset, .unset] []))
  refine Go.step (fun _ k => XS.iloadN X2.here hx rfl (hb hby d6_19) rfl k) ?_
  show Go _ _ _ _ (T2.setTop (mkF m 20 #[.val (.ref o), .val (.int (Int32.ofNat lv)), .val (.int (Int32.ofNat n)), .val (.int (Int32.ofNat lv)), .val (.ref t), .unset, .unset, .unset] [(.int (Int32.ofNat n))]))
  refine Go.step (fun _ k => XS.bipush X2.here hx rfl (hb hby d6_20) k) ?_
  show Go _ _ _ _ (T2.setTop (mkF m 22 #[.val (.ref o), .val (.int (Int32.ofNat lv)), .val (.int (Int32.ofNat n)), .val (.int (Int32.ofNat lv)), .val (.ref t), .unset, .unset, .unset] [(.int (6 : Int32)), (.int (Int32.ofNat n))]))
  refine Go.step (fun _ k => XS.iushr X2.here hx rfl (hb hby d6_22) rfl k) ?_
  show Go _ _ _ _ (T2.setTop (mkF m 23 #[.val (.ref o), .val (.int (Int32.ofNat lv)), .val (.int (Int32.ofNat n)), .val (.int (Int32.ofNat lv)), .val (.ref t), .unset, .unset, .unset] [(.int (((Int32.ofNat n).toUInt32 >>> ((6 : Int32) &&& 31).toUInt32).toInt32))]))
  refine Go.step (fun _ k => XS.istore X2.here hx rfl (hb hby d6_23) rfl (l' := #[.val (.ref o), .val (.int (Int32.ofNat lv)), .val (.int (Int32.ofNat n)), .val (.int (Int32.ofNat lv)), .val (.ref t), .val (.int (((Int32.ofNat n).toUInt32 >>> ((6 : Int32) &&& 31).toUInt32).toInt32)), .unset, .unset]) rfl k) ?_
  show Go _ _ _ _ (T2.setTop (mkF m 25 #[.val (.ref o), .val (.int (Int32.ofNat lv)), .val (.int (Int32.ofNat n)), .val (.int (Int32.ofNat lv)), .val (.ref t), .val (.int (((Int32.ofNat n).toUInt32 >>> ((6 : Int32) &&& 31).toUInt32).toInt32)), .unset, .unset] []))
  rw [own_shr6 (by omega)]
  show Go _ _ _ _ (T2.setTop (mkF m 25 #[.val (.ref o), .val (.int (Int32.ofNat lv)), .val (.int (Int32.ofNat n)), .val (.int (Int32.ofNat lv)), .val (.ref t), .val (.int (Int32.ofNat (n / 64))), .unset, .unset] []))
  refine Go.step (fun _ k => XS.aload X2.here hx rfl (hb hby d6_25) rfl rfl k) ?_
  show Go _ _ _ _ (T2.setTop (mkF m 27 #[.val (.ref o), .val (.int (Int32.ofNat lv)), .val (.int (Int32.ofNat n)), .val (.int (Int32.ofNat lv)), .val (.ref t), .val (.int (Int32.ofNat (n / 64))), .unset, .unset] [(.ref t)]))
  refine Go.step (fun _ k => XS.iload X2.here hx rfl (hb hby d6_27) rfl k) ?_
  show Go _ _ _ _ (T2.setTop (mkF m 29 #[.val (.ref o), .val (.int (Int32.ofNat lv)), .val (.int (Int32.ofNat n)), .val (.int (Int32.ofNat lv)), .val (.ref t), .val (.int (Int32.ofNat (n / 64))), .unset, .unset] [(.int (Int32.ofNat (n / 64))), (.ref t)]))
  obtain ⟨cl, AL, SL, HW⟩ := HL
  obtain ⟨v, hv, hWd⟩ := HW (n / 64) (by omega)
  refine Go.step (fun tg k => X2.laload hx (j := (Int32.ofNat (n / 64))) (v := (.long v)) (by rw [e2]; exact AL.1) (State.isArrayOf_alike hZ.alike AL.2.1) AL.2.2 (own_in (by omega) (by omega)) (by rw [own_clamp (by omega)]; exact hv) (g := (mkF m 29 #[.val (.ref o), .val (.int (Int32.ofNat lv)), .val (.int (Int32.ofNat n)), .val (.int (Int32.ofNat lv)), .val (.ref t), .val (.int (Int32.ofNat (n / 64))), .unset, .unset] [(.int (Int32.ofNat (n / 64))), (.ref t)])) rfl rfl (hb hby d6_29) tg k) ?_
  show Go _ _ _ _ (T2.setTop (mkF m 30 #[.val (.ref o), .val (.int (Int32.ofNat lv)), .val (.int (Int32.ofNat n)), .val (.int (Int32.ofNat lv)), .val (.ref t), .val (.int (Int32.ofNat (n / 64))), .unset, .unset] [(.long v)]))
  refine Go.step (fun _ k => XS.lstore X2.here hx rfl (hb hby d6_30) rfl (l' := #[.val (.ref o), .val (.int (Int32.ofNat lv)), .val (.int (Int32.ofNat n)), .val (.int (Int32.ofNat lv)), .val (.ref t), .val (.int (Int32.ofNat (n / 64))), .val (.long v), .second]) rfl k) ?_
  show Go _ _ _ _ (T2.setTop (mkF m 32 #[.val (.ref o), .val (.int (Int32.ofNat lv)), .val (.int (Int32.ofNat n)), .val (.int (Int32.ofNat lv)), .val (.ref t), .val (.int (Int32.ofNat (n / 64))), .val (.long v), .second] []))
  refine Go.step (fun _ k => XS.aload X2.here hx rfl (hb hby d6_32) rfl rfl k) ?_
  show Go _ _ _ _ (T2.setTop (mkF m 34 #[.val (.ref o), .val (.int (Int32.ofNat lv)), .val (.int (Int32.ofNat n)), .val (.int (Int32.ofNat lv)), .val (.ref t), .val (.int (Int32.ofNat (n / 64))), .val (.long v), .second] [(.ref t)]))
  refine Go.step (fun _ k => XS.iload X2.here hx rfl (hb hby d6_34) rfl k) ?_
  show Go _ _ _ _ (T2.setTop (mkF m 36 #[.val (.ref o), .val (.int (Int32.ofNat lv)), .val (.int (Int32.ofNat n)), .val (.int (Int32.ofNat lv)), .val (.ref t), .val (.int (Int32.ofNat (n / 64))), .val (.long v), .second] [(.int (Int32.ofNat (n / 64))), (.ref t)]))
  refine Go.step (fun _ k => XS.lload X2.here hx rfl (hb hby d6_36) rfl k) ?_
  show Go _ _ _ _ (T2.setTop (mkF m 38 #[.val (.ref o), .val (.int (Int32.ofNat lv)), .val (.int (Int32.ofNat n)), .val (.int (Int32.ofNat lv)), .val (.ref t), .val (.int (Int32.ofNat (n / 64))), .val (.long v), .second] [(.long v), (.int (Int32.ofNat (n / 64))), (.ref t)]))
  refine Go.step (fun _ k => XS.lconst X2.here hx rfl (hb hby d6_38) k) ?_
  show Go _ _ _ _ (T2.setTop (mkF m 39 #[.val (.ref o), .val (.int (Int32.ofNat lv)), .val (.int (Int32.ofNat n)), .val (.int (Int32.ofNat lv)), .val (.ref t), .val (.int (Int32.ofNat (n / 64))), .val (.long v), .second] [(.long (1 : Int64)), (.long v), (.int (Int32.ofNat (n / 64))), (.ref t)]))
  refine Go.step (fun _ k => XS.iloadN X2.here hx rfl (hb hby d6_39) rfl k) ?_
  show Go _ _ _ _ (T2.setTop (mkF m 40 #[.val (.ref o), .val (.int (Int32.ofNat lv)), .val (.int (Int32.ofNat n)), .val (.int (Int32.ofNat lv)), .val (.ref t), .val (.int (Int32.ofNat (n / 64))), .val (.long v), .second] [(.int (Int32.ofNat n)), (.long (1 : Int64)), (.long v), (.int (Int32.ofNat (n / 64))), (.ref t)]))
  refine Go.step (fun _ k => XS.lshl X2.here hx rfl (hb hby d6_40) rfl k) ?_
  show Go _ _ _ _ (T2.setTop (mkF m 41 #[.val (.ref o), .val (.int (Int32.ofNat lv)), .val (.int (Int32.ofNat n)), .val (.int (Int32.ofNat lv)), .val (.ref t), .val (.int (Int32.ofNat (n / 64))), .val (.long v), .second] [(.long ((1 : Int64) <<< ((Int32.ofNat n) &&& 0x3f).toInt64)), (.long v), (.int (Int32.ofNat (n / 64))), (.ref t)]))
  refine Go.step (fun _ k => XS.lor X2.here hx rfl (hb hby d6_41) rfl k) ?_
  show Go _ _ _ _ (T2.setTop (mkF m 42 #[.val (.ref o), .val (.int (Int32.ofNat lv)), .val (.int (Int32.ofNat n)), .val (.int (Int32.ofNat lv)), .val (.ref t), .val (.int (Int32.ofNat (n / 64))), .val (.long v), .second] [(.long (v ||| ((1 : Int64) <<< ((Int32.ofNat n) &&& 0x3f).toInt64))), (.int (Int32.ofNat (n / 64))), (.ref t)]))
  obtain ⟨T1, h1, X1, e1, W1, st1⟩ := stJ X2 hx hZ e2 AL (j := Int32.ofNat (n / 64)) (own_in (by omega) (by omega)) (g := (mkF m 42 #[.val (.ref o), .val (.int (Int32.ofNat lv)), .val (.int (Int32.ofNat n)), .val (.int (Int32.ofNat lv)), .val (.ref t), .val (.int (Int32.ofNat (n / 64))), .val (.long v), .second] [(.long (v ||| ((1 : Int64) <<< ((Int32.ofNat n) &&& 0x3f).toInt64))), (.int (Int32.ofNat (n / 64))), (.ref t)])) rfl rfl (hb hby d6_42)
  have P1 : Lv Z h1 t M (fun y => g y || decide (y = n)) := Lv.put AL SL HW (by omega) (by omega) W1 (hWd.fill (by omega)) (fun w hw hne j hj => by rw [decide_eq_false (show ¬ 64 * w + j = n by omega), Bool.or_false])
  have N1 := Fr.snoc X1 (Fr.nil n0) gt
  have K1 : Keep h0 h1 [t] := Keep.of_wr W1
  obtain ⟨cl1, A1, S1, H1⟩ := id P1
  obtain ⟨v1, hv1, hWd1⟩ := H1 (n / 64) (by omega)
  refine Go.step st1 ?_
  show Go _ _ _ _ (T1.setTop (mkF m 43 #[.val (.ref o), .val (.int (Int32.ofNat lv)), .val (.int (Int32.ofNat n)), .val (.int (Int32.ofNat lv)), .val (.ref t), .val (.int (Int32.ofNat (n / 64))), .val (.long v), .second] []))
  refine Go.step (fun _ k => XS.lload X1.here hx rfl (hb hby d6_43) rfl k) ?_
  show Go _ _ _ _ (T1.setTop (mkF m 45 #[.val (.ref o), .val (.int (Int32.ofNat lv)), .val (.int (Int32.ofNat n)), .val (.int (Int32.ofNat lv)), .val (.ref t), .val (.int (Int32.ofNat (n / 64))), .val (.long v), .second] [(.long v)]))
  refine Go.step (X1.ldc2Long hx hown (mvT hZ (hw _ (List.mem_of_getElem? (i := 36) rfl))) (g := (mkF m 45 #[.val (.ref o), .val (.int (Int32.ofNat lv)), .val (.int (Int32.ofNat n)), .val (.int (Int32.ofNat lv)), .val (.ref t), .val (.int (Int32.ofNat (n / 64))), .val (.long v), .second] [(.long v)])) rfl (hb hby d6_45)) ?_
  show Go _ _ _ _ (T1.setTop (mkF m 48 #[.val (.ref o), .val (.int (Int32.ofNat lv)), .val (.int (Int32.ofNat n)), .val (.int (Int32.ofNat lv)), .val (.ref t), .val (.int (Int32.ofNat (n / 64))), .val (.long v), .second] [(.long (-1 : Int64)), (.long v)]))
  refine Go.step (fun _ k => XS.lcmp X1.here hx rfl (hb hby d6_48) rfl k) ?_
  show Go _ _ _ _ (T1.setTop (mkF m 49 #[.val (.ref o), .val (.int (Int32.ofNat lv)), .val (.int (Int32.ofNat n)), .val (.int (Int32.ofNat lv)), .val (.ref t), .val (.int (Int32.ofNat (n / 64))), .val (.long v), .second] [(.int (lcmpW v (-1 : Int64)))]))
  refine Go.step (fun _ k => XS.ifNo X1.here hx rfl (hb hby d6_49) rfl ((if0 _ _).trans (feq (fun q => (hWd.notfull (by obtain ⟨j, hj, q⟩ := hR; exact ⟨j, hj, (Bool.or_eq_false_iff.mp q).1⟩)) ((lw_eq _ _).mp q))).1) k) ?_
  show Go _ _ _ _ (T1.setTop (mkF m 52 #[.val (.ref o), .val (.int (Int32.ofNat lv)), .val (.int (Int32.ofNat n)), .val (.int (Int32.ofNat lv)), .val (.ref t), .val (.int (Int32.ofNat (n / 64))), .val (.long v), .second] []))
  refine Go.step (fun _ k => XS.aload X1.here hx rfl (hb hby d6_52) rfl rfl k) ?_
  show Go _ _ _ _ (T1.setTop (mkF m 54 #[.val (.ref o), .val (.int (Int32.ofNat lv)), .val (.int (Int32.ofNat n)), .val (.int (Int32.ofNat lv)), .val (.ref t), .val (.int (Int32.ofNat (n / 64))), .val (.long v), .second] [(.ref t)]))
  refine Go.step (fun _ k => XS.iload X1.here hx rfl (hb hby d6_54) rfl k) ?_
  show Go _ _ _ _ (T1.setTop (mkF m 56 #[.val (.ref o), .val (.int (Int32.ofNat lv)), .val (.int (Int32.ofNat n)), .val (.int (Int32.ofNat lv)), .val (.ref t), .val (.int (Int32.ofNat (n / 64))), .val (.long v), .second] [(.int (Int32.ofNat (n / 64))), (.ref t)]))
  refine Go.step (fun tg k => X1.laload hx (j := (Int32.ofNat (n / 64))) (v := (.long v1)) (by rw [e1]; exact A1.1) (State.isArrayOf_alike hZ.alike A1.2.1) A1.2.2 (own_in (by omega) (by omega)) (by rw [own_clamp (by omega)]; exact hv1) (g := (mkF m 56 #[.val (.ref o), .val (.int (Int32.ofNat lv)), .val (.int (Int32.ofNat n)), .val (.int (Int32.ofNat lv)), .val (.ref t), .val (.int (Int32.ofNat (n / 64))), .val (.long v), .second] [(.int (Int32.ofNat (n / 64))), (.ref t)])) rfl rfl (hb hby d6_56) tg k) ?_
  show Go _ _ _ _ (T1.setTop (mkF m 57 #[.val (.ref o), .val (.int (Int32.ofNat lv)), .val (.int (Int32.ofNat n)), .val (.int (Int32.ofNat lv)), .val (.ref t), .val (.int (Int32.ofNat (n / 64))), .val (.long v), .second] [(.long v1)]))
  refine Go.step (X1.ldc2Long hx hown (mvT hZ (hw _ (List.mem_of_getElem? (i := 36) rfl))) (g := (mkF m 57 #[.val (.ref o), .val (.int (Int32.ofNat lv)), .val (.int (Int32.ofNat n)), .val (.int (Int32.ofNat lv)), .val (.ref t), .val (.int (Int32.ofNat (n / 64))), .val (.long v), .second] [(.long v1)])) rfl (hb hby d6_57)) ?_
  show Go _ _ _ _ (T1.setTop (mkF m 60 #[.val (.ref o), .val (.int (Int32.ofNat lv)), .val (.int (Int32.ofNat n)), .val (.int (Int32.ofNat lv)), .val (.ref t), .val (.int (Int32.ofNat (n / 64))), .val (.long v), .second] [(.long (-1 : Int64)), (.long v1)]))
  refine Go.step (fun _ k => XS.lcmp X1.here hx rfl (hb hby d6_60) rfl k) ?_
  show Go _ _ _ _ (T1.setTop (mkF m 61 #[.val (.ref o), .val (.int (Int32.ofNat lv)), .val (.int (Int32.ofNat n)), .val (.int (Int32.ofNat lv)), .val (.ref t), .val (.int (Int32.ofNat (n / 64))), .val (.long v), .second] [(.int (lcmpW v1 (-1 : Int64)))]))
  refine Go.step (fun _ k => XS.ifNo X1.here hx rfl (hb hby d6_61) rfl ((if0 _ _).trans (feq (fun q => (hWd1.notfull hR) ((lw_eq _ _).mp q))).1) k) ?_
  show Go _ _ _ _ (T1.setTop (mkF m 64 #[.val (.ref o), .val (.int (Int32.ofNat lv)), .val (.int (Int32.ofNat n)), .val (.int (Int32.ofNat lv)), .val (.ref t), .val (.int (Int32.ofNat (n / 64))), .val (.long v), .second] []))
  exact leafV X1 hx hret hlk (hb hby d6_64) ⟨rfl, N1, by rw [e1]; exact K1, by rw [e1]; exact P1⟩ (by decide) (by decide)
theorem d7_0 : decode prog_9_method_4_code 0 = .ok (.iload_n 1, 1) := by decide +kernel
theorem d7_1 : decode prog_9_method_4_code 1 = .ok (.istore_n 2, 1) := by decide +kernel
theorem d7_2 : decode prog_9_method_4_code 2 = .ok (.iconst 0, 1) := by decide +kernel
theorem d7_3 : decode prog_9_method_4_code 3 = .ok (.istore_n 3, 1) := by decide +kernel
theorem d7_4 : decode prog_9_method_4_code 4 = .ok (.iload_n 3, 1) := by decide +kernel
theorem d7_5 : decode prog_9_method_4_code 5 = .ok (.aload_n 0, 1) := by decide +kernel
theorem d7_6 : decode prog_9_method_4_code 6 = .ok (.getfield 15, 3) := by decide +kernel
theorem d7_9 : decode prog_9_method_4_code 9 = .ok (.arraylength, 1) := by decide +kernel
theorem d7_10 : decode prog_9_method_4_code 10 = .ok (.if_icmp .ge 58, 3) := by decide +kernel
theorem d7_13 : decode prog_9_method_4_code 13 = .ok (.aload_n 0, 1) := by decide +kernel
theorem d7_14 : decode prog_9_method_4_code 14 = .ok (.getfield 15, 3) := by decide +kernel
theorem d7_17 : decode prog_9_method_4_code 17 = .ok (.iload_n 3, 1) := by decide +kernel
theorem d7_18 : decode prog_9_method_4_code 18 = .ok (.aaload, 1) := by decide +kernel
theorem d7_19 : decode prog_9_method_4_code 19 = .ok (.astore 4, 2) := by decide +kernel
theorem d7_21 : decode prog_9_method_4_code 21 = .ok (.iload_n 2, 1) := by decide +kernel
theorem d7_22 : decode prog_9_method_4_code 22 = .ok (.bipush 6, 2) := by decide +kernel
theorem d7_24 : decode prog_9_method_4_code 24 = .ok (.iushr, 1) := by decide +kernel
theorem d7_25 : decode prog_9_method_4_code 25 = .ok (.istore 5, 2) := by decide +kernel
theorem d7_27 : decode prog_9_method_4_code 27 = .ok (.aload 4, 2) := by decide +kernel
theorem d7_29 : decode prog_9_method_4_code 29 = .ok (.iload 5, 2) := by decide +kernel
theorem d7_31 : decode prog_9_method_4_code 31 = .ok (.laload, 1) := by decide +kernel
theorem d7_32 : decode prog_9_method_4_code 32 = .ok (.lstore 6, 2) := by decide +kernel
theorem d7_34 : decode prog_9_method_4_code 34 = .ok (.aload 4, 2) := by decide +kernel
theorem d7_36 : decode prog_9_method_4_code 36 = .ok (.iload 5, 2) := by decide +kernel
theorem d7_38 : decode prog_9_method_4_code 38 = .ok (.lload 6, 2) := by decide +kernel
theorem d7_40 : decode prog_9_method_4_code 40 = .ok (.lconst 1, 1) := by decide +kernel
theorem d7_41 : decode prog_9_method_4_code 41 = .ok (.iload_n 2, 1) := by decide +kernel
theorem d7_42 : decode prog_9_method_4_code 42 = .ok (.lshl, 1) := by decide +kernel
theorem d7_43 : decode prog_9_method_4_code 43 = .ok (.ldc2_w 26, 3) := by decide +kernel
theorem d7_46 : decode prog_9_method_4_code 46 = .ok (.lxor, 1) := by decide +kernel
theorem d7_47 : decode prog_9_method_4_code 47 = .ok (.land, 1) := by decide +kernel
theorem d7_48 : decode prog_9_method_4_code 48 = .ok (.lastore, 1) := by decide +kernel
theorem d7_49 : decode prog_9_method_4_code 49 = .ok (.lload 6, 2) := by decide +kernel
theorem d7_51 : decode prog_9_method_4_code 51 = .ok (.ldc2_w 26, 3) := by decide +kernel
theorem d7_54 : decode prog_9_method_4_code 54 = .ok (.lcmp, 1) := by decide +kernel
theorem d7_55 : decode prog_9_method_4_code 55 = .ok (.ifCond .eq 4, 3) := by decide +kernel
theorem d7_58 : decode prog_9_method_4_code 58 = .ok (.return_, 1) := by decide +kernel
theorem d7_59 : decode prog_9_method_4_code 59 = .ok (.iload 5, 2) := by decide +kernel
theorem d7_61 : decode prog_9_method_4_code 61 = .ok (.istore_n 2, 1) := by decide +kernel
theorem d7_62 : decode prog_9_method_4_code 62 = .ok (.iinc 3 1, 3) := by decide +kernel
theorem d7_65 : decode prog_9_method_4_code 65 = .ok (.goto (-61), 3) := by decide +kernel
theorem d7_68 : decode prog_9_method_4_code 68 = .ok (.return_, 1) := by decide +kernel
theorem pn7 : plainFor (⟨"com/example/prefix_scope/prefixscope/NumberSet", "remove", "(I)V"⟩ : MethodName) = true := plainFor_of_name (by first | (simp [plainName, overriddenIn]; done) | decide +kernel)
theorem pd7 : parseMethodDescriptor "(I)V" = some ⟨[.int], none⟩ := by decide +kernel
theorem ef7 (m : MethodId) (o : Addr) (x1 : Int32) : entryFrame m #[(.ref o), (.int x1)] 8 = mkF m 0 #[.val (.ref o), .val (.int x1), .unset, .unset, .unset, .unset, .unset, .unset] [] := by first | (simp [entryFrame, mkF, argsToLocals, Value.category]; done) | rfl
set_option maxRecDepth 65536 in
set_option maxHeartbeats 40000000 in
theorem rm7 (l : Launch) (Z : State) (a0 : Array Value) (hw : ∀ d ∈ tables_1, d.before a0 Z = true) (ws : List Jvm.Cond)  (h0 : Heap) (o tl t : Addr) (n M : Nat) (cT : Cell) (g : Nat → Bool) (hsz : cT.slots.size ≤ 2) (hlv : 0 < cT.slots.size) (hcT : cT.slots[0]? = some (.ref t)) (FL : Fld Z h0 o "com/example/prefix_scope/prefixscope/NumberSet" "levels" "[[J" (.ref tl)) (AT : Arr Z h0 tl cT (.array .long)) (HL : Lv Z h0 t M g) (hn : n < 64 * M) (hM : M ≤ 4) (hR : ∃ j, j < 64 ∧ g (64 * (n / 64) + j) = false) (n0 : Nat) (gt : n0 ≤ t) : Con l Z (⟨"com/example/prefix_scope/prefixscope/NumberSet", "remove", "(I)V"⟩ : MethodName) prog_9_method_4_code 8 none ws ({ frames := 0, cells := 0, slots := 0, locals := 0 } : Room) #[(.ref o), (.int (Int32.ofNat n))] h0 (fun v h L => v = none ∧ Fr n0 L ∧ Keep h0 h [t] ∧ Lv Z h t M (fun y => g y && !decide (y = n))) := by
  refine Con.of pn7 fun p e s m below meth c s₁ hZ hx hby hml hown hret hlk hnm X0 e0 => ?_
  rw [ef7]
  show Go _ _ _ _ (s₁.setTop (mkF m 0 #[.val (.ref o), .val (.int (Int32.ofNat n)), .unset, .unset, .unset, .unset, .unset, .unset] []))
  refine Go.step (fun _ k => XS.iloadN X0.here hx rfl (hb hby d7_0) rfl k) ?_
  show Go _ _ _ _ (s₁.setTop (mkF m 1 #[.val (.ref o), .val (.int (Int32.ofNat n)), .unset, .unset, .unset, .unset, .unset, .unset] [(.int (Int32.ofNat n))]))
  refine Go.step (fun _ k => XS.istoreN X0.here hx rfl (hb hby d7_1) rfl (l' := #[.val (.ref o), .val (.int (Int32.ofNat n)), .val (.int (Int32.ofNat n)), .unset, .unset, .unset, .unset, .unset]) rfl k) ?_
  show Go _ _ _ _ (s₁.setTop (mkF m 2 #[.val (.ref o), .val (.int (Int32.ofNat n)), .val (.int (Int32.ofNat n)), .unset, .unset, .unset, .unset, .unset] []))
  refine Go.step (fun _ k => XS.iconst X0.here hx rfl (hb hby d7_2) k) ?_
  show Go _ _ _ _ (s₁.setTop (mkF m 3 #[.val (.ref o), .val (.int (Int32.ofNat n)), .val (.int (Int32.ofNat n)), .unset, .unset, .unset, .unset, .unset] [(.int (0 : Int32))]))
  refine Go.step (fun _ k => XS.istoreN X0.here hx rfl (hb hby d7_3) rfl (l' := #[.val (.ref o), .val (.int (Int32.ofNat n)), .val (.int (Int32.ofNat n)), .val (.int (0 : Int32)), .unset, .unset, .unset, .unset]) rfl k) ?_
  show Go _ _ _ _ (s₁.setTop (mkF m 4 #[.val (.ref o), .val (.int (Int32.ofNat n)), .val (.int (Int32.ofNat n)), .val (.int (0 : Int32)), .unset, .unset, .unset, .unset] []))
  refine Go.step (fun _ k => XS.iloadN X0.here hx rfl (hb hby d7_4) rfl k) ?_
  show Go _ _ _ _ (s₁.setTop (mkF m 5 #[.val (.ref o), .val (.int (Int32.ofNat n)), .val (.int (Int32.ofNat n)), .val (.int (0 : Int32)), .unset, .unset, .unset, .unset] [(.int (0 : Int32))]))
  refine Go.step (fun _ k => XS.aloadN X0.here hx rfl (hb hby d7_5) rfl rfl k) ?_
  show Go _ _ _ _ (s₁.setTop (mkF m 6 #[.val (.ref o), .val (.int (Int32.ofNat n)), .val (.int (Int32.ofNat n)), .val (.int (0 : Int32)), .unset, .unset, .unset, .unset] [(.ref o), (.int (0 : Int32))]))
  obtain ⟨T1, X1, e1, st1⟩ := getF X0 hx hZ hown (host := "") (Or.inl (hw _ (List.mem_of_getElem? (i := 14) rfl))) Via.refl e0 FL (g := (mkF m 6 #[.val (.ref o), .val (.int (Int32.ofNat n)), .val (.int (Int32.ofNat n)), .val (.int (0 : Int32)), .unset, .unset, .unset, .unset] [(.ref o), (.int (0 : Int32))])) rfl rfl (hb hby d7_6)
  refine Go.step st1 ?_
  show Go _ _ _ _ (T1.setTop (mkF m 9 #[.val (.ref o), .val (.int (Int32.ofNat n)), .val (.int (Int32.ofNat n)), .val (.int (0 : Int32)), .unset, .unset, .unset, .unset] [(.ref tl), (.int (0 : Int32))]))
  refine Go.step (fun tg k => X1.arraylength hx (by rw [e1]; exact AT.1) (State.isArrayOf_alike hZ.alike AT.2.1) (g := (mkF m 9 #[.val (.ref o), .val (.int (Int32.ofNat n)), .val (.int (Int32.ofNat n)), .val (.int (0 : Int32)), .unset, .unset, .unset, .unset] [(.ref tl), (.int (0 : Int32))])) rfl rfl (hb hby d7_9) tg k) ?_
  show Go _ _ _ _ (T1.setTop (mkF m 10 #[.val (.ref o), .val (.int (Int32.ofNat n)), .val (.int (Int32.ofNat n)), .val (.int (0 : Int32)), .unset, .unset, .unset, .unset] [(.int (Int32.ofNat cT.slots.size)), (.int (0 : Int32))]))
  refine Go.step (fun _ k => XS.icmpNo X1.here hx rfl (hb hby d7_10) rfl (tlt ((own_lt (i := 0) (by omega) (by omega)).mpr hlv)).2.1 k) ?_
  show Go _ _ _ _ (T1.setTop (mkF m 13 #[.val (.ref o), .val (.int (Int32.ofNat n)), .val (.int (Int32.ofNat n)), .val (.int (0 : Int32)), .unset, .unset, .unset, .unset] []))
  refine Go.step (fun _ k => XS.aloadN X1.here hx rfl (hb hby d7_13) rfl rfl k) ?_
  show Go _ _ _ _ (T1.setTop (mkF m 14 #[.val (.ref o), .val (.int (Int32.ofNat n)), .val (.int (Int32.ofNat n)), .val (.int (0 : Int32)), .unset, .unset, .unset, .unset] [(.ref o)]))
  obtain ⟨T2, X2, e2, st2⟩ := getF X1 hx hZ hown (host := "") (Or.inl (hw _ (List.mem_of_getElem? (i := 14) rfl))) Via.refl e1 FL (g := (mkF m 14 #[.val (.ref o), .val (.int (Int32.ofNat n)), .val (.int (Int32.ofNat n)), .val (.int (0 : Int32)), .unset, .unset, .unset, .unset] [(.ref o)])) rfl rfl (hb hby d7_14)
  refine Go.step st2 ?_
  show Go _ _ _ _ (T2.setTop (mkF m 17 #[.val (.ref o), .val (.int (Int32.ofNat n)), .val (.int (Int32.ofNat n)), .val (.int (0 : Int32)), .unset, .unset, .unset, .unset] [(.ref tl)]))
  refine Go.step (fun _ k => XS.iloadN X2.here hx rfl (hb hby d7_17) rfl k) ?_
  show Go _ _ _ _ (T2.setTop (mkF m 18 #[.val (.ref o), .val (.int (Int32.ofNat n)), .val (.int (Int32.ofNat n)), .val (.int (0 : Int32)), .unset, .unset, .unset, .unset] [(.int (0 : Int32)), (.ref tl)]))
  refine Go.step (fun tg k => X2.aaload hx (j := (0 : Int32)) (v := (.ref t)) (by rw [e2]; exact AT.1) (State.isArrayOf_alike hZ.alike AT.2.1) rfl AT.2.2 (own_in (i := 0) hlv (by omega)) hcT (g := (mkF m 18 #[.val (.ref o), .val (.int (Int32.ofNat n)), .val (.int (Int32.ofNat n)), .val (.int (0 : Int32)), .unset, .unset, .unset, .unset] [(.int (0 : Int32)), (.ref tl)])) rfl rfl (hb hby d7_18) tg k) ?_
  show Go _ _ _ _ (T2.setTop (mkF m 19 #[.val (.ref o), .val (.int (Int32.ofNat n)), .val (.int (Int32.ofNat n)), .val (.int (0 : Int32)), .unset, .unset, .unset, .unset] [(.ref t)]))
  refine Go.step (fun _ k => XS.astore X2.here hx rfl (hb hby d7_19) rfl rfl (l' := #[.val (.ref o), .val (.int (Int32.ofNat n)), .val (.int (Int32.ofNat n)), .val (.int (0 : Int32)), .val (.ref t), .unset, .unset, .unset]) rfl k) ?_
  show Go _ _ _ _ (T2.setTop (mkF m 21 #[.val (.ref o), .val (.int (Int32.ofNat n)), .val (.int (Int32.ofNat n)), .val (.int (0 : Int32)), .val (.ref t), .unset, .unset, .unset] []))
  refine Go.step (fun _ k => XS.iloadN X2.here hx rfl (hb hby d7_21) rfl k) ?_
  show Go _ _ _ _ (T2.setTop (mkF m 22 #[.val (.ref o), .val (.int (Int32.ofNat n)), .val (.int (Int32.ofNat n)), .val (.int (0 : Int32)), .val (.ref t), .unset, .unset, .unset] [(.int (Int32.ofNat n))]))
  refine Go.step (fun _ k => XS.bipush X2.here hx rfl (hb hby d7_22) k) ?_
  show Go _ _ _ _ (T2.setTop (mkF m 24 #[.val (.ref o), .val (.int (Int32.ofNat n)), .val (.int (Int32.ofNat n)), .val (.int (0 : Int32)), .val (.ref t), .unset, .unset, .unset] [(.int (6 : Int32)), (.int (Int32.ofNat n))]))
  refine Go.step (fun _ k => XS.iushr X2.here hx rfl (hb hby d7_24) rfl k) ?_
  show Go _ _ _ _ (T2.setTop (mkF m 25 #[.val (.ref o), .val (.int (Int32.ofNat n)), .val (.int (Int32.ofNat n)), .val (.int (0 : Int32)), .val (.ref t), .unset, .unset, .unset] [(.int (((Int32.ofNat n).toUInt32 >>> ((6 : Int32) &&& 31).toUInt32).toInt32))]))
  refine Go.step (fun _ k => XS.istore X2.here hx rfl (hb hby d7_25) rfl (l' := #[.val (.ref o), .val (.int (Int32.ofNat n)), .val (.int (Int32.ofNat n)), .val (.int (0 : Int32)), .val (.ref t), .val (.int (((Int32.ofNat n).toUInt32 >>> ((6 : Int32) &&& 31).toUInt32).toInt32)), .unset, .unset]) rfl k) ?_
  show Go _ _ _ _ (T2.setTop (mkF m 27 #[.val (.ref o), .val (.int (Int32.ofNat n)), .val (.int (Int32.ofNat n)), .val (.int (0 : Int32)), .val (.ref t), .val (.int (((Int32.ofNat n).toUInt32 >>> ((6 : Int32) &&& 31).toUInt32).toInt32)), .unset, .unset] []))
  rw [own_shr6 (by omega)]
  show Go _ _ _ _ (T2.setTop (mkF m 27 #[.val (.ref o), .val (.int (Int32.ofNat n)), .val (.int (Int32.ofNat n)), .val (.int (0 : Int32)), .val (.ref t), .val (.int (Int32.ofNat (n / 64))), .unset, .unset] []))
  refine Go.step (fun _ k => XS.aload X2.here hx rfl (hb hby d7_27) rfl rfl k) ?_
  show Go _ _ _ _ (T2.setTop (mkF m 29 #[.val (.ref o), .val (.int (Int32.ofNat n)), .val (.int (Int32.ofNat n)), .val (.int (0 : Int32)), .val (.ref t), .val (.int (Int32.ofNat (n / 64))), .unset, .unset] [(.ref t)]))
  refine Go.step (fun _ k => XS.iload X2.here hx rfl (hb hby d7_29) rfl k) ?_
  show Go _ _ _ _ (T2.setTop (mkF m 31 #[.val (.ref o), .val (.int (Int32.ofNat n)), .val (.int (Int32.ofNat n)), .val (.int (0 : Int32)), .val (.ref t), .val (.int (Int32.ofNat (n / 64))), .unset, .unset] [(.int (Int32.ofNat (n / 64))), (.ref t)]))
  obtain ⟨cl, AL, SL, HW⟩ := HL
  obtain ⟨v, hv, hWd⟩ := HW (n / 64) (by omega)
  refine Go.step (fun tg k => X2.laload hx (j := (Int32.ofNat (n / 64))) (v := (.long v)) (by rw [e2]; exact AL.1) (State.isArrayOf_alike hZ.alike AL.2.1) AL.2.2 (own_in (by omega) (by omega)) (by rw [own_clamp (by omega)]; exact hv) (g := (mkF m 31 #[.val (.ref o), .val (.int (Int32.ofNat n)), .val (.int (Int32.ofNat n)), .val (.int (0 : Int32)), .val (.ref t), .val (.int (Int32.ofNat (n / 64))), .unset, .unset] [(.int (Int32.ofNat (n / 64))), (.ref t)])) rfl rfl (hb hby d7_31) tg k) ?_
  show Go _ _ _ _ (T2.setTop (mkF m 32 #[.val (.ref o), .val (.int (Int32.ofNat n)), .val (.int (Int32.ofNat n)), .val (.int (0 : Int32)), .val (.ref t), .val (.int (Int32.ofNat (n / 64))), .unset, .unset] [(.long v)]))
  refine Go.step (fun _ k => XS.lstore X2.here hx rfl (hb hby d7_32) rfl (l' := #[.val (.ref o), .val (.int (Int32.ofNat n)), .val (.int (Int32.ofNat n)), .val (.int (0 : Int32)), .val (.ref t), .val (.int (Int32.ofNat (n / 64))), .val (.long v), .second]) rfl k) ?_
  show Go _ _ _ _ (T2.setTop (mkF m 34 #[.val (.ref o), .val (.int (Int32.ofNat n)), .val (.int (Int32.ofNat n)), .val (.int (0 : Int32)), .val (.ref t), .val (.int (Int32.ofNat (n / 64))), .val (.long v), .second] []))
  refine Go.step (fun _ k => XS.aload X2.here hx rfl (hb hby d7_34) rfl rfl k) ?_
  show Go _ _ _ _ (T2.setTop (mkF m 36 #[.val (.ref o), .val (.int (Int32.ofNat n)), .val (.int (Int32.ofNat n)), .val (.int (0 : Int32)), .val (.ref t), .val (.int (Int32.ofNat (n / 64))), .val (.long v), .second] [(.ref t)]))
  refine Go.step (fun _ k => XS.iload X2.here hx rfl (hb hby d7_36) rfl k) ?_
  show Go _ _ _ _ (T2.setTop (mkF m 38 #[.val (.ref o), .val (.int (Int32.ofNat n)), .val (.int (Int32.ofNat n)), .val (.int (0 : Int32)), .val (.ref t), .val (.int (Int32.ofNat (n / 64))), .val (.long v), .second] [(.int (Int32.ofNat (n / 64))), (.ref t)]))
  refine Go.step (fun _ k => XS.lload X2.here hx rfl (hb hby d7_38) rfl k) ?_
  show Go _ _ _ _ (T2.setTop (mkF m 40 #[.val (.ref o), .val (.int (Int32.ofNat n)), .val (.int (Int32.ofNat n)), .val (.int (0 : Int32)), .val (.ref t), .val (.int (Int32.ofNat (n / 64))), .val (.long v), .second] [(.long v), (.int (Int32.ofNat (n / 64))), (.ref t)]))
  refine Go.step (fun _ k => XS.lconst X2.here hx rfl (hb hby d7_40) k) ?_
  show Go _ _ _ _ (T2.setTop (mkF m 41 #[.val (.ref o), .val (.int (Int32.ofNat n)), .val (.int (Int32.ofNat n)), .val (.int (0 : Int32)), .val (.ref t), .val (.int (Int32.ofNat (n / 64))), .val (.long v), .second] [(.long (1 : Int64)), (.long v), (.int (Int32.ofNat (n / 64))), (.ref t)]))
  refine Go.step (fun _ k => XS.iloadN X2.here hx rfl (hb hby d7_41) rfl k) ?_
  show Go _ _ _ _ (T2.setTop (mkF m 42 #[.val (.ref o), .val (.int (Int32.ofNat n)), .val (.int (Int32.ofNat n)), .val (.int (0 : Int32)), .val (.ref t), .val (.int (Int32.ofNat (n / 64))), .val (.long v), .second] [(.int (Int32.ofNat n)), (.long (1 : Int64)), (.long v), (.int (Int32.ofNat (n / 64))), (.ref t)]))
  refine Go.step (fun _ k => XS.lshl X2.here hx rfl (hb hby d7_42) rfl k) ?_
  show Go _ _ _ _ (T2.setTop (mkF m 43 #[.val (.ref o), .val (.int (Int32.ofNat n)), .val (.int (Int32.ofNat n)), .val (.int (0 : Int32)), .val (.ref t), .val (.int (Int32.ofNat (n / 64))), .val (.long v), .second] [(.long ((1 : Int64) <<< ((Int32.ofNat n) &&& 0x3f).toInt64)), (.long v), (.int (Int32.ofNat (n / 64))), (.ref t)]))
  refine Go.step (X2.ldc2Long hx hown (mvT hZ (hw _ (List.mem_of_getElem? (i := 36) rfl))) (g := (mkF m 43 #[.val (.ref o), .val (.int (Int32.ofNat n)), .val (.int (Int32.ofNat n)), .val (.int (0 : Int32)), .val (.ref t), .val (.int (Int32.ofNat (n / 64))), .val (.long v), .second] [(.long ((1 : Int64) <<< ((Int32.ofNat n) &&& 0x3f).toInt64)), (.long v), (.int (Int32.ofNat (n / 64))), (.ref t)])) rfl (hb hby d7_43)) ?_
  show Go _ _ _ _ (T2.setTop (mkF m 46 #[.val (.ref o), .val (.int (Int32.ofNat n)), .val (.int (Int32.ofNat n)), .val (.int (0 : Int32)), .val (.ref t), .val (.int (Int32.ofNat (n / 64))), .val (.long v), .second] [(.long (-1 : Int64)), (.long ((1 : Int64) <<< ((Int32.ofNat n) &&& 0x3f).toInt64)), (.long v), (.int (Int32.ofNat (n / 64))), (.ref t)]))
  refine Go.step (fun _ k => XS.lxor X2.here hx rfl (hb hby d7_46) rfl k) ?_
  show Go _ _ _ _ (T2.setTop (mkF m 47 #[.val (.ref o), .val (.int (Int32.ofNat n)), .val (.int (Int32.ofNat n)), .val (.int (0 : Int32)), .val (.ref t), .val (.int (Int32.ofNat (n / 64))), .val (.long v), .second] [(.long (((1 : Int64) <<< ((Int32.ofNat n) &&& 0x3f).toInt64) ^^^ (-1 : Int64))), (.long v), (.int (Int32.ofNat (n / 64))), (.ref t)]))
  refine Go.step (fun _ k => XS.land X2.here hx rfl (hb hby d7_47) rfl k) ?_
  show Go _ _ _ _ (T2.setTop (mkF m 48 #[.val (.ref o), .val (.int (Int32.ofNat n)), .val (.int (Int32.ofNat n)), .val (.int (0 : Int32)), .val (.ref t), .val (.int (Int32.ofNat (n / 64))), .val (.long v), .second] [(.long (v &&& (((1 : Int64) <<< ((Int32.ofNat n) &&& 0x3f).toInt64) ^^^ (-1 : Int64)))), (.int (Int32.ofNat (n / 64))), (.ref t)]))
  obtain ⟨T1, h1, X1, e1, W1, st1⟩ := stJ X2 hx hZ e2 AL (j := Int32.ofNat (n / 64)) (own_in (by omega) (by omega)) (g := (mkF m 48 #[.val (.ref o), .val (.int (Int32.ofNat n)), .val (.int (Int32.ofNat n)), .val (.int (0 : Int32)), .val (.ref t), .val (.int (Int32.ofNat (n / 64))), .val (.long v), .second] [(.long (v &&& (((1 : Int64) <<< ((Int32.ofNat n) &&& 0x3f).toInt64) ^^^ (-1 : Int64)))), (.int (Int32.ofNat (n / 64))), (.ref t)])) rfl rfl (hb hby d7_48)
  have P1 : Lv Z h1 t M (fun y => g y && !decide (y = n)) := Lv.put AL SL HW (by omega) (by omega) W1 (hWd.clear (by omega)) (fun w hw hne j hj => by rw [decide_eq_false (show ¬ 64 * w + j = n by omega)]; simp)
  have N1 := Fr.snoc X1 (Fr.nil n0) gt
  have K1 : Keep h0 h1 [t] := Keep.of_wr W1
  refine Go.step st1 ?_
  show Go _ _ _ _ (T1.setTop (mkF m 49 #[.val (.ref o), .val (.int (Int32.ofNat n)), .val (.int (Int32.ofNat n)), .val (.int (0 : Int32)), .val (.ref t), .val (.int (Int32.ofNat (n / 64))), .val (.long v), .second] []))
  refine Go.step (fun _ k => XS.lload X1.here hx rfl (hb hby d7_49) rfl k) ?_
  show Go _ _ _ _ (T1.setTop (mkF m 51 #[.val (.ref o), .val (.int (Int32.ofNat n)), .val (.int (Int32.ofNat n)), .val (.int (0 : Int32)), .val (.ref t), .val (.int (Int32.ofNat (n / 64))), .val (.long v), .second] [(.long v)]))
  refine Go.step (X1.ldc2Long hx hown (mvT hZ (hw _ (List.mem_of_getElem? (i := 36) rfl))) (g := (mkF m 51 #[.val (.ref o), .val (.int (Int32.ofNat n)), .val (.int (Int32.ofNat n)), .val (.int (0 : Int32)), .val (.ref t), .val (.int (Int32.ofNat (n / 64))), .val (.long v), .second] [(.long v)])) rfl (hb hby d7_51)) ?_
  show Go _ _ _ _ (T1.setTop (mkF m 54 #[.val (.ref o), .val (.int (Int32.ofNat n)), .val (.int (Int32.ofNat n)), .val (.int (0 : Int32)), .val (.ref t), .val (.int (Int32.ofNat (n / 64))), .val (.long v), .second] [(.long (-1 : Int64)), (.long v)]))
  refine Go.step (fun _ k => XS.lcmp X1.here hx rfl (hb hby d7_54) rfl k) ?_
  show Go _ _ _ _ (T1.setTop (mkF m 55 #[.val (.ref o), .val (.int (Int32.ofNat n)), .val (.int (Int32.ofNat n)), .val (.int (0 : Int32)), .val (.ref t), .val (.int (Int32.ofNat (n / 64))), .val (.long v), .second] [(.int (lcmpW v (-1 : Int64)))]))
  refine Go.step (fun _ k => XS.ifNo X1.here hx rfl (hb hby d7_55) rfl ((if0 _ _).trans (feq (fun q => (hWd.notfull hR) ((lw_eq _ _).mp q))).1) k) ?_
  show Go _ _ _ _ (T1.setTop (mkF m 58 #[.val (.ref o), .val (.int (Int32.ofNat n)), .val (.int (Int32.ofNat n)), .val (.int (0 : Int32)), .val (.ref t), .val (.int (Int32.ofNat (n / 64))), .val (.long v), .second] []))
  exact leafV X1 hx hret hlk (hb hby d7_58) ⟨rfl, N1, by rw [e1]; exact K1, by rw [e1]; exact P1⟩ (by decide) (by decide)
theorem d8_0 : decode prog_9_method_5_code 0 = .ok (.iconst 0, 1) := by decide +kernel
theorem d8_1 : decode prog_9_method_5_code 1 = .ok (.istore_n 2, 1) := by decide +kernel
theorem d8_2 : decode prog_9_method_5_code 2 = .ok (.iload_n 1, 1) := by decide +kernel
theorem d8_3 : decode prog_9_method_5_code 3 = .ok (.istore_n 3, 1) := by decide +kernel
theorem d8_4 : decode prog_9_method_5_code 4 = .ok (.lconst 0, 1) := by decide +kernel
theorem d8_5 : decode prog_9_method_5_code 5 = .ok (.lstore 4, 2) := by decide +kernel
theorem d8_7 : decode prog_9_method_5_code 7 = .ok (.lload 4, 2) := by decide +kernel
theorem d8_9 : decode prog_9_method_5_code 9 = .ok (.lconst 0, 1) := by decide +kernel
theorem d8_10 : decode prog_9_method_5_code 10 = .ok (.lcmp, 1) := by decide +kernel
theorem d8_11 : decode prog_9_method_5_code 11 = .ok (.ifCond .ne 74, 3) := by decide +kernel
theorem d8_14 : decode prog_9_method_5_code 14 = .ok (.iload_n 2, 1) := by decide +kernel
theorem d8_15 : decode prog_9_method_5_code 15 = .ok (.aload_n 0, 1) := by decide +kernel
theorem d8_16 : decode prog_9_method_5_code 16 = .ok (.getfield 15, 3) := by decide +kernel
theorem d8_19 : decode prog_9_method_5_code 19 = .ok (.arraylength, 1) := by decide +kernel
theorem d8_20 : decode prog_9_method_5_code 20 = .ok (.if_icmp .eq 17, 3) := by decide +kernel
theorem d8_23 : decode prog_9_method_5_code 23 = .ok (.iload_n 3, 1) := by decide +kernel
theorem d8_24 : decode prog_9_method_5_code 24 = .ok (.bipush 6, 2) := by decide +kernel
theorem d8_26 : decode prog_9_method_5_code 26 = .ok (.iushr, 1) := by decide +kernel
theorem d8_27 : decode prog_9_method_5_code 27 = .ok (.aload_n 0, 1) := by decide +kernel
theorem d8_28 : decode prog_9_method_5_code 28 = .ok (.getfield 15, 3) := by decide +kernel
theorem d8_31 : decode prog_9_method_5_code 31 = .ok (.iload_n 2, 1) := by decide +kernel
theorem d8_32 : decode prog_9_method_5_code 32 = .ok (.aaload, 1) := by decide +kernel
theorem d8_33 : decode prog_9_method_5_code 33 = .ok (.arraylength, 1) := by decide +kernel
theorem d8_34 : decode prog_9_method_5_code 34 = .ok (.if_icmp .lt 8, 3) := by decide +kernel
theorem d8_37 : decode prog_9_method_5_code 37 = .ok (.aload_n 0, 1) := by decide +kernel
theorem d8_38 : decode prog_9_method_5_code 38 = .ok (.getfield 7, 3) := by decide +kernel
theorem d8_41 : decode prog_9_method_5_code 41 = .ok (.ireturn, 1) := by decide +kernel
theorem d8_42 : decode prog_9_method_5_code 42 = .ok (.aload_n 0, 1) := by decide +kernel
theorem d8_43 : decode prog_9_method_5_code 43 = .ok (.getfield 15, 3) := by decide +kernel
theorem d8_46 : decode prog_9_method_5_code 46 = .ok (.iload_n 2, 1) := by decide +kernel
theorem d8_47 : decode prog_9_method_5_code 47 = .ok (.aaload, 1) := by decide +kernel
theorem d8_48 : decode prog_9_method_5_code 48 = .ok (.iload_n 3, 1) := by decide +kernel
theorem d8_49 : decode prog_9_method_5_code 49 = .ok (.bipush 6, 2) := by decide +kernel
theorem d8_51 : decode prog_9_method_5_code 51 = .ok (.iushr, 1) := by decide +kernel
theorem d8_52 : decode prog_9_method_5_code 52 = .ok (.laload, 1) := by decide +kernel
theorem d8_53 : decode prog_9_method_5_code 53 = .ok (.ldc2_w 26, 3) := by decide +kernel
theorem d8_56 : decode prog_9_method_5_code 56 = .ok (.lxor, 1) := by decide +kernel
theorem d8_57 : decode prog_9_method_5_code 57 = .ok (.ldc2_w 26, 3) := by decide +kernel
theorem d8_60 : decode prog_9_method_5_code 60 = .ok (.iload_n 3, 1) := by decide +kernel
theorem d8_61 : decode prog_9_method_5_code 61 = .ok (.lshl, 1) := by decide +kernel
theorem d8_62 : decode prog_9_method_5_code 62 = .ok (.land, 1) := by decide +kernel
theorem d8_63 : decode prog_9_method_5_code 63 = .ok (.lstore 4, 2) := by decide +kernel
theorem d8_65 : decode prog_9_method_5_code 65 = .ok (.lload 4, 2) := by decide +kernel
theorem d8_67 : decode prog_9_method_5_code 67 = .ok (.lconst 0, 1) := by decide +kernel
theorem d8_68 : decode prog_9_method_5_code 68 = .ok (.lcmp, 1) := by decide +kernel
theorem d8_69 : decode prog_9_method_5_code 69 = .ok (.ifCond .ne (-62), 3) := by decide +kernel
theorem d8_72 : decode prog_9_method_5_code 72 = .ok (.iload_n 3, 1) := by decide +kernel
theorem d8_73 : decode prog_9_method_5_code 73 = .ok (.bipush 6, 2) := by decide +kernel
theorem d8_75 : decode prog_9_method_5_code 75 = .ok (.iushr, 1) := by decide +kernel
theorem d8_76 : decode prog_9_method_5_code 76 = .ok (.iconst 1, 1) := by decide +kernel
theorem d8_77 : decode prog_9_method_5_code 77 = .ok (.iadd, 1) := by decide +kernel
theorem d8_78 : decode prog_9_method_5_code 78 = .ok (.istore_n 3, 1) := by decide +kernel
theorem d8_79 : decode prog_9_method_5_code 79 = .ok (.iinc 2 1, 3) := by decide +kernel
theorem d8_82 : decode prog_9_method_5_code 82 = .ok (.goto (-75), 3) := by decide +kernel
theorem d8_85 : decode prog_9_method_5_code 85 = .ok (.iload_n 3, 1) := by decide +kernel
theorem d8_86 : decode prog_9_method_5_code 86 = .ok (.bipush (-64), 2) := by decide +kernel
theorem d8_88 : decode prog_9_method_5_code 88 = .ok (.iand, 1) := by decide +kernel
theorem d8_89 : decode prog_9_method_5_code 89 = .ok (.lload 4, 2) := by decide +kernel
theorem d8_91 : decode prog_9_method_5_code 91 = .ok (.invokestatic 28, 3) := by decide +kernel
theorem d8_94 : decode prog_9_method_5_code 94 = .ok (.ior, 1) := by decide +kernel
theorem d8_95 : decode prog_9_method_5_code 95 = .ok (.istore_n 3, 1) := by decide +kernel
theorem d8_96 : decode prog_9_method_5_code 96 = .ok (.iload_n 2, 1) := by decide +kernel
theorem d8_97 : decode prog_9_method_5_code 97 = .ok (.ifCond .le 30, 3) := by decide +kernel
theorem d8_100 : decode prog_9_method_5_code 100 = .ok (.iinc 2 (-1), 3) := by decide +kernel
theorem d8_103 : decode prog_9_method_5_code 103 = .ok (.iload_n 3, 1) := by decide +kernel
theorem d8_104 : decode prog_9_method_5_code 104 = .ok (.bipush 6, 2) := by decide +kernel
theorem d8_106 : decode prog_9_method_5_code 106 = .ok (.ishl, 1) := by decide +kernel
theorem d8_107 : decode prog_9_method_5_code 107 = .ok (.aload_n 0, 1) := by decide +kernel
theorem d8_108 : decode prog_9_method_5_code 108 = .ok (.getfield 15, 3) := by decide +kernel
theorem d8_111 : decode prog_9_method_5_code 111 = .ok (.iload_n 2, 1) := by decide +kernel
theorem d8_112 : decode prog_9_method_5_code 112 = .ok (.aaload, 1) := by decide +kernel
theorem d8_113 : decode prog_9_method_5_code 113 = .ok (.iload_n 3, 1) := by decide +kernel
theorem d8_114 : decode prog_9_method_5_code 114 = .ok (.laload, 1) := by decide +kernel
theorem d8_115 : decode prog_9_method_5_code 115 = .ok (.ldc2_w 26, 3) := by decide +kernel
theorem d8_118 : decode prog_9_method_5_code 118 = .ok (.lxor, 1) := by decide +kernel
theorem d8_119 : decode prog_9_method_5_code 119 = .ok (.invokestatic 28, 3) := by decide +kernel
theorem d8_122 : decode prog_9_method_5_code 122 = .ok (.ior, 1) := by decide +kernel
theorem d8_123 : decode prog_9_method_5_code 123 = .ok (.istore_n 3, 1) := by decide +kernel
theorem d8_124 : decode prog_9_method_5_code 124 = .ok (.goto (-28), 3) := by decide +kernel
theorem d8_127 : decode prog_9_method_5_code 127 = .ok (.iload_n 3, 1) := by decide +kernel
theorem d8_128 : decode prog_9_method_5_code 128 = .ok (.ireturn, 1) := by decide +kernel
theorem pn8 : plainFor (⟨"com/example/prefix_scope/prefixscope/NumberSet", "firstAbsent", "(I)I"⟩ : MethodName) = true := plainFor_of_name (by first | (simp [plainName, overriddenIn]; done) | decide +kernel)
theorem pd8 : parseMethodDescriptor "(I)I" = some ⟨[.int], some .int⟩ := by decide +kernel
theorem ef8 (m : MethodId) (o : Addr) (x1 : Int32) : entryFrame m #[(.ref o), (.int x1)] 6 = mkF m 0 #[.val (.ref o), .val (.int x1), .unset, .unset, .unset, .unset] [] := by first | (simp [entryFrame, mkF, argsToLocals, Value.category]; done) | rfl
set_option maxRecDepth 65536 in
set_option maxHeartbeats 40000000 in
theorem rmA1 (l : Launch) (Z : State) (a0 : Array Value) (hw : ∀ d ∈ tables_1, d.before a0 Z = true) (ws : List Jvm.Cond)  (h0 : Heap) (o tl t0 : Addr) (N f : Nat) (cT : Cell) (g : Nat → Bool) (hsz : cT.slots.size = 1) (hc0 : cT.slots[0]? = some (.ref t0)) (FL : Fld Z h0 o "com/example/prefix_scope/prefixscope/NumberSet" "levels" "[[J" (.ref tl)) (FC : Fld Z h0 o "com/example/prefix_scope/prefixscope/NumberSet" "capacity" "I" (.int (Int32.ofNat (64 * N)))) (AT : Arr Z h0 tl cT (.array .long)) (HL : Lv Z h0 t0 N g) (hN : N ≤ 4) (hN1 : N = 1) (hf : f < 2147483648) (hR : ∀ w, w < N → ∃ j, j < 64 ∧ g (64 * w + j) = false) : Con l Z (⟨"com/example/prefix_scope/prefixscope/NumberSet", "firstAbsent", "(I)I"⟩ : MethodName) prog_9_method_5_code 6 (some .int) ws ({ frames := 2, cells := 0, slots := 0, locals := 40 } : Room) #[(.ref o), (.int (Int32.ofNat f))] h0 (fun v h L => (∃ r : Nat, v = some (.int (Int32.ofNat r)) ∧ FA g N f r) ∧ h = h0 ∧ L = []) := by
  refine Con.of pn8 fun p e s m below meth c s₁ hZ hx hby hml hown hret hlk hnm X0 e0 => ?_
  rw [ef8]
  obtain ⟨cl, AL, SL, HW⟩ := HL
  show Go _ _ _ _ (s₁.setTop (mkF m 0 #[.val (.ref o), .val (.int (Int32.ofNat f)), .unset, .unset, .unset, .unset] []))
  refine Go.step (fun _ k => XS.iconst X0.here hx rfl (hb hby d8_0) k) ?_
  show Go _ _ _ _ (s₁.setTop (mkF m 1 #[.val (.ref o), .val (.int (Int32.ofNat f)), .unset, .unset, .unset, .unset] [(.int (0 : Int32))]))
  refine Go.step (fun _ k => XS.istoreN X0.here hx rfl (hb hby d8_1) rfl (l' := #[.val (.ref o), .val (.int (Int32.ofNat f)), .val (.int (0 : Int32)), .unset, .unset, .unset]) rfl k) ?_
  show Go _ _ _ _ (s₁.setTop (mkF m 2 #[.val (.ref o), .val (.int (Int32.ofNat f)), .val (.int (0 : Int32)), .unset, .unset, .unset] []))
  refine Go.step (fun _ k => XS.iloadN X0.here hx rfl (hb hby d8_2) rfl k) ?_
  show Go _ _ _ _ (s₁.setTop (mkF m 3 #[.val (.ref o), .val (.int (Int32.ofNat f)), .val (.int (0 : Int32)), .unset, .unset, .unset] [(.int (Int32.ofNat f))]))
  refine Go.step (fun _ k => XS.istoreN X0.here hx rfl (hb hby d8_3) rfl (l' := #[.val (.ref o), .val (.int (Int32.ofNat f)), .val (.int (0 : Int32)), .val (.int (Int32.ofNat f)), .unset, .unset]) rfl k) ?_
  show Go _ _ _ _ (s₁.setTop (mkF m 4 #[.val (.ref o), .val (.int (Int32.ofNat f)), .val (.int (0 : Int32)), .val (.int (Int32.ofNat f)), .unset, .unset] []))
  refine Go.step (fun _ k => XS.lconst X0.here hx rfl (hb hby d8_4) k) ?_
  show Go _ _ _ _ (s₁.setTop (mkF m 5 #[.val (.ref o), .val (.int (Int32.ofNat f)), .val (.int (0 : Int32)), .val (.int (Int32.ofNat f)), .unset, .unset] [(.long (0 : Int64))]))
  refine Go.step (fun _ k => XS.lstore X0.here hx rfl (hb hby d8_5) rfl (l' := #[.val (.ref o), .val (.int (Int32.ofNat f)), .val (.int (0 : Int32)), .val (.int (Int32.ofNat f)), .val (.long (0 : Int64)), .second]) rfl k) ?_
  show Go _ _ _ _ (s₁.setTop (mkF m 7 #[.val (.ref o), .val (.int (Int32.ofNat f)), .val (.int (0 : Int32)), .val (.int (Int32.ofNat f)), .val (.long (0 : Int64)), .second] []))
  refine Go.step (fun _ k => XS.lload X0.here hx rfl (hb hby d8_7) rfl k) ?_
  show Go _ _ _ _ (s₁.setTop (mkF m 9 #[.val (.ref o), .val (.int (Int32.ofNat f)), .val (.int (0 : Int32)), .val (.int (Int32.ofNat f)), .val (.long (0 : Int64)), .second] [(.long (0 : Int64))]))
  refine Go.step (fun _ k => XS.lconst X0.here hx rfl (hb hby d8_9) k) ?_
  show Go _ _ _ _ (s₁.setTop (mkF m 10 #[.val (.ref o), .val (.int (Int32.ofNat f)), .val (.int (0 : Int32)), .val (.int (Int32.ofNat f)), .val (.long (0 : Int64)), .second] [(.long (0 : Int64)), (.long (0 : Int64))]))
  refine Go.step (fun _ k => XS.lcmp X0.here hx rfl (hb hby d8_10) rfl k) ?_
  show Go _ _ _ _ (s₁.setTop (mkF m 11 #[.val (.ref o), .val (.int (Int32.ofNat f)), .val (.int (0 : Int32)), .val (.int (Int32.ofNat f)), .val (.long (0 : Int64)), .second] [(.int (lcmpW (0 : Int64) (0 : Int64)))]))
  refine Go.step (fun _ k => XS.ifNo X0.here hx rfl (hb hby d8_11) rfl ((if0 _ _).trans (teq ((lw_eq _ _).mpr (by decide : ((0 : Int64) = (0 : Int64))))).2) k) ?_
  show Go _ _ _ _ (s₁.setTop (mkF m 14 #[.val (.ref o), .val (.int (Int32.ofNat f)), .val (.int (0 : Int32)), .val (.int (Int32.ofNat f)), .val (.long (0 : Int64)), .second] []))
  refine Go.step (fun _ k => XS.iloadN X0.here hx rfl (hb hby d8_14) rfl k) ?_
  show Go _ _ _ _ (s₁.setTop (mkF m 15 #[.val (.ref o), .val (.int (Int32.ofNat f)), .val (.int (0 : Int32)), .val (.int (Int32.ofNat f)), .val (.long (0 : Int64)), .second] [(.int (0 : Int32))]))
  refine Go.step (fun _ k => XS.aloadN X0.here hx rfl (hb hby d8_15) rfl rfl k) ?_
  show Go _ _ _ _ (s₁.setTop (mkF m 16 #[.val (.ref o), .val (.int (Int32.ofNat f)), .val (.int (0 : Int32)), .val (.int (Int32.ofNat f)), .val (.long (0 : Int64)), .second] [(.ref o), (.int (0 : Int32))]))
  obtain ⟨T1, X1, e1, st1⟩ := getF X0 hx hZ hown (host := "") (Or.inl (hw _ (List.mem_of_getElem? (i := 14) rfl))) Via.refl e0 FL (g := (mkF m 16 #[.val (.ref o), .val (.int (Int32.ofNat f)), .val (.int (0 : Int32)), .val (.int (Int32.ofNat f)), .val (.long (0 : Int64)), .second] [(.ref o), (.int (0 : Int32))])) rfl rfl (hb hby d8_16)
  refine Go.step st1 ?_
  show Go _ _ _ _ (T1.setTop (mkF m 19 #[.val (.ref o), .val (.int (Int32.ofNat f)), .val (.int (0 : Int32)), .val (.int (Int32.ofNat f)), .val (.long (0 : Int64)), .second] [(.ref tl), (.int (0 : Int32))]))
  refine Go.step (fun tg k => X1.arraylength hx (by rw [e1]; exact AT.1) (State.isArrayOf_alike hZ.alike AT.2.1) (g := (mkF m 19 #[.val (.ref o), .val (.int (Int32.ofNat f)), .val (.int (0 : Int32)), .val (.int (Int32.ofNat f)), .val (.long (0 : Int64)), .second] [(.ref tl), (.int (0 : Int32))])) rfl rfl (hb hby d8_19) tg k) ?_
  rw [hsz]
  show Go _ _ _ _ (T1.setTop (mkF m 20 #[.val (.ref o), .val (.int (Int32.ofNat f)), .val (.int (0 : Int32)), .val (.int (Int32.ofNat f)), .val (.long (0 : Int64)), .second] [(.int (Int32.ofNat 1)), (.int (0 : Int32))]))
  refine Go.step (fun _ k => XS.icmpNo X1.here hx rfl (hb hby d8_20) rfl (feq (show ¬ ((0 : Int32) = (Int32.ofNat 1)) from (by decide : ¬ ((0 : Int32) = (Int32.ofNat 1))))).1 k) ?_
  show Go _ _ _ _ (T1.setTop (mkF m 23 #[.val (.ref o), .val (.int (Int32.ofNat f)), .val (.int (0 : Int32)), .val (.int (Int32.ofNat f)), .val (.long (0 : Int64)), .second] []))
  refine Go.step (fun _ k => XS.iloadN X1.here hx rfl (hb hby d8_23) rfl k) ?_
  show Go _ _ _ _ (T1.setTop (mkF m 24 #[.val (.ref o), .val (.int (Int32.ofNat f)), .val (.int (0 : Int32)), .val (.int (Int32.ofNat f)), .val (.long (0 : Int64)), .second] [(.int (Int32.ofNat f))]))
  refine Go.step (fun _ k => XS.bipush X1.here hx rfl (hb hby d8_24) k) ?_
  show Go _ _ _ _ (T1.setTop (mkF m 26 #[.val (.ref o), .val (.int (Int32.ofNat f)), .val (.int (0 : Int32)), .val (.int (Int32.ofNat f)), .val (.long (0 : Int64)), .second] [(.int (6 : Int32)), (.int (Int32.ofNat f))]))
  refine Go.step (fun _ k => XS.iushr X1.here hx rfl (hb hby d8_26) rfl k) ?_
  rw [own_shr6 (by omega)]
  show Go _ _ _ _ (T1.setTop (mkF m 27 #[.val (.ref o), .val (.int (Int32.ofNat f)), .val (.int (0 : Int32)), .val (.int (Int32.ofNat f)), .val (.long (0 : Int64)), .second] [(.int (Int32.ofNat (f / 64)))]))
  refine Go.step (fun _ k => XS.aloadN X1.here hx rfl (hb hby d8_27) rfl rfl k) ?_
  show Go _ _ _ _ (T1.setTop (mkF m 28 #[.val (.ref o), .val (.int (Int32.ofNat f)), .val (.int (0 : Int32)), .val (.int (Int32.ofNat f)), .val (.long (0 : Int64)), .second] [(.ref o), (.int (Int32.ofNat (f / 64)))]))
  obtain ⟨T2, X2, e2, st2⟩ := getF X1 hx hZ hown (host := "") (Or.inl (hw _ (List.mem_of_getElem? (i := 14) rfl))) Via.refl e1 FL (g := (mkF m 28 #[.val (.ref o), .val (.int (Int32.ofNat f)), .val (.int (0 : Int32)), .val (.int (Int32.ofNat f)), .val (.long (0 : Int64)), .second] [(.ref o), (.int (Int32.ofNat (f / 64)))])) rfl rfl (hb hby d8_28)
  refine Go.step st2 ?_
  show Go _ _ _ _ (T2.setTop (mkF m 31 #[.val (.ref o), .val (.int (Int32.ofNat f)), .val (.int (0 : Int32)), .val (.int (Int32.ofNat f)), .val (.long (0 : Int64)), .second] [(.ref tl), (.int (Int32.ofNat (f / 64)))]))
  refine Go.step (fun _ k => XS.iloadN X2.here hx rfl (hb hby d8_31) rfl k) ?_
  show Go _ _ _ _ (T2.setTop (mkF m 32 #[.val (.ref o), .val (.int (Int32.ofNat f)), .val (.int (0 : Int32)), .val (.int (Int32.ofNat f)), .val (.long (0 : Int64)), .second] [(.int (0 : Int32)), (.ref tl), (.int (Int32.ofNat (f / 64)))]))
  refine Go.step (fun tg k => X2.aaload hx (j := (0 : Int32)) (v := (.ref t0)) (by rw [e2]; exact AT.1) (State.isArrayOf_alike hZ.alike AT.2.1) rfl AT.2.2 (own_in (i := 0) (by omega) (by omega)) hc0 (g := (mkF m 32 #[.val (.ref o), .val (.int (Int32.ofNat f)), .val (.int (0 : Int32)), .val (.int (Int32.ofNat f)), .val (.long (0 : Int64)), .second] [(.int (0 : Int32)), (.ref tl), (.int (Int32.ofNat (f / 64)))])) rfl rfl (hb hby d8_32) tg k) ?_
  show Go _ _ _ _ (T2.setTop (mkF m 33 #[.val (.ref o), .val (.int (Int32.ofNat f)), .val (.int (0 : Int32)), .val (.int (Int32.ofNat f)), .val (.long (0 : Int64)), .second] [(.ref t0), (.int (Int32.ofNat (f / 64)))]))
  refine Go.step (fun tg k => X2.arraylength hx (by rw [e2]; exact AL.1) (State.isArrayOf_alike hZ.alike AL.2.1) (g := (mkF m 33 #[.val (.ref o), .val (.int (Int32.ofNat f)), .val (.int (0 : Int32)), .val (.int (Int32.ofNat f)), .val (.long (0 : Int64)), .second] [(.ref t0), (.int (Int32.ofNat (f / 64)))])) rfl rfl (hb hby d8_33) tg k) ?_
  rw [SL]
  show Go _ _ _ _ (T2.setTop (mkF m 34 #[.val (.ref o), .val (.int (Int32.ofNat f)), .val (.int (0 : Int32)), .val (.int (Int32.ofNat f)), .val (.long (0 : Int64)), .second] [(.int (Int32.ofNat N)), (.int (Int32.ofNat (f / 64)))]))
  by_cases hc3 : (Int32.ofNat (f / 64)) < (Int32.ofNat N)
  · refine Go.step (fun _ k => XS.icmpYes X2.here hx rfl (pc0 := 34) (pc' := 42) rfl (hb hby d8_34) rfl (tlt hc3).1 (by decide) (by decide) k) ?_
    show Go _ _ _ _ (T2.setTop (mkF m 42 #[.val (.ref o), .val (.int (Int32.ofNat f)), .val (.int (0 : Int32)), .val (.int (Int32.ofNat f)), .val (.long (0 : Int64)), .second] []))
    refine Go.step (fun _ k => XS.aloadN X2.here hx rfl (hb hby d8_42) rfl rfl k) ?_
    show Go _ _ _ _ (T2.setTop (mkF m 43 #[.val (.ref o), .val (.int (Int32.ofNat f)), .val (.int (0 : Int32)), .val (.int (Int32.ofNat f)), .val (.long (0 : Int64)), .second] [(.ref o)]))
    obtain ⟨T4, X4, e4, st4⟩ := getF X2 hx hZ hown (host := "") (Or.inl (hw _ (List.mem_of_getElem? (i := 14) rfl))) Via.refl e2 FL (g := (mkF m 43 #[.val (.ref o), .val (.int (Int32.ofNat f)), .val (.int (0 : Int32)), .val (.int (Int32.ofNat f)), .val (.long (0 : Int64)), .second] [(.ref o)])) rfl rfl (hb hby d8_43)
    refine Go.step st4 ?_
    show Go _ _ _ _ (T4.setTop (mkF m 46 #[.val (.ref o), .val (.int (Int32.ofNat f)), .val (.int (0 : Int32)), .val (.int (Int32.ofNat f)), .val (.long (0 : Int64)), .second] [(.ref tl)]))
    refine Go.step (fun _ k => XS.iloadN X4.here hx rfl (hb hby d8_46) rfl k) ?_
    show Go _ _ _ _ (T4.setTop (mkF m 47 #[.val (.ref o), .val (.int (Int32.ofNat f)), .val (.int (0 : Int32)), .val (.int (Int32.ofNat f)), .val (.long (0 : Int64)), .second] [(.int (0 : Int32)), (.ref tl)]))
    refine Go.step (fun tg k => X4.aaload hx (j := (0 : Int32)) (v := (.ref t0)) (by rw [e4]; exact AT.1) (State.isArrayOf_alike hZ.alike AT.2.1) rfl AT.2.2 (own_in (i := 0) (by omega) (by omega)) hc0 (g := (mkF m 47 #[.val (.ref o), .val (.int (Int32.ofNat f)), .val (.int (0 : Int32)), .val (.int (Int32.ofNat f)), .val (.long (0 : Int64)), .second] [(.int (0 : Int32)), (.ref tl)])) rfl rfl (hb hby d8_47) tg k) ?_
    show Go _ _ _ _ (T4.setTop (mkF m 48 #[.val (.ref o), .val (.int (Int32.ofNat f)), .val (.int (0 : Int32)), .val (.int (Int32.ofNat f)), .val (.long (0 : Int64)), .second] [(.ref t0)]))
    refine Go.step (fun _ k => XS.iloadN X4.here hx rfl (hb hby d8_48) rfl k) ?_
    show Go _ _ _ _ (T4.setTop (mkF m 49 #[.val (.ref o), .val (.int (Int32.ofNat f)), .val (.int (0 : Int32)), .val (.int (Int32.ofNat f)), .val (.long (0 : Int64)), .second] [(.int (Int32.ofNat f)), (.ref t0)]))
    refine Go.step (fun _ k => XS.bipush X4.here hx rfl (hb hby d8_49) k) ?_
    show Go _ _ _ _ (T4.setTop (mkF m 51 #[.val (.ref o), .val (.int (Int32.ofNat f)), .val (.int (0 : Int32)), .val (.int (Int32.ofNat f)), .val (.long (0 : Int64)), .second] [(.int (6 : Int32)), (.int (Int32.ofNat f)), (.ref t0)]))
    refine Go.step (fun _ k => XS.iushr X4.here hx rfl (hb hby d8_51) rfl k) ?_
    rw [own_shr6 (by omega)]
    show Go _ _ _ _ (T4.setTop (mkF m 52 #[.val (.ref o), .val (.int (Int32.ofNat f)), .val (.int (0 : Int32)), .val (.int (Int32.ofNat f)), .val (.long (0 : Int64)), .second] [(.int (Int32.ofNat (f / 64))), (.ref t0)]))
    have hf64 : f / 64 < N := (own_lt (by omega) (by omega)).mp hc3
    obtain ⟨v, hv, hWd⟩ := HW (f / 64) hf64
    refine Go.step (fun tg k => X4.laload hx (j := (Int32.ofNat (f / 64))) (v := (.long v)) (by rw [e4]; exact AL.1) (State.isArrayOf_alike hZ.alike AL.2.1) AL.2.2 (own_in (by omega) (by omega)) (by rw [own_clamp (by omega)]; exact hv) (g := (mkF m 52 #[.val (.ref o), .val (.int (Int32.ofNat f)), .val (.int (0 : Int32)), .val (.int (Int32.ofNat f)), .val (.long (0 : Int64)), .second] [(.int (Int32.ofNat (f / 64))), (.ref t0)])) rfl rfl (hb hby d8_52) tg k) ?_
    show Go _ _ _ _ (T4.setTop (mkF m 53 #[.val (.ref o), .val (.int (Int32.ofNat f)), .val (.int (0 : Int32)), .val (.int (Int32.ofNat f)), .val (.long (0 : Int64)), .second] [(.long v)]))
    refine Go.step (X4.ldc2Long hx hown (mvT hZ (hw _ (List.mem_of_getElem? (i := 36) rfl))) (g := (mkF m 53 #[.val (.ref o), .val (.int (Int32.ofNat f)), .val (.int (0 : Int32)), .val (.int (Int32.ofNat f)), .val (.long (0 : Int64)), .second] [(.long v)])) rfl (hb hby d8_53)) ?_
    show Go _ _ _ _ (T4.setTop (mkF m 56 #[.val (.ref o), .val (.int (Int32.ofNat f)), .val (.int (0 : Int32)), .val (.int (Int32.ofNat f)), .val (.long (0 : Int64)), .second] [(.long (-1 : Int64)), (.long v)]))
    refine Go.step (fun _ k => XS.lxor X4.here hx rfl (hb hby d8_56) rfl k) ?_
    show Go _ _ _ _ (T4.setTop (mkF m 57 #[.val (.ref o), .val (.int (Int32.ofNat f)), .val (.int (0 : Int32)), .val (.int (Int32.ofNat f)), .val (.long (0 : Int64)), .second] [(.long (v ^^^ (-1 : Int64)))]))
    refine Go.step (X4.ldc2Long hx hown (mvT hZ (hw _ (List.mem_of_getElem? (i := 36) rfl))) (g := (mkF m 57 #[.val (.ref o), .val (.int (Int32.ofNat f)), .val (.int (0 : Int32)), .val (.int (Int32.ofNat f)), .val (.long (0 : Int64)), .second] [(.long (v ^^^ (-1 : Int64)))])) rfl (hb hby d8_57)) ?_
    show Go _ _ _ _ (T4.setTop (mkF m 60 #[.val (.ref o), .val (.int (Int32.ofNat f)), .val (.int (0 : Int32)), .val (.int (Int32.ofNat f)), .val (.long (0 : Int64)), .second] [(.long (-1 : Int64)), (.long (v ^^^ (-1 : Int64)))]))
    refine Go.step (fun _ k => XS.iloadN X4.here hx rfl (hb hby d8_60) rfl k) ?_
    show Go _ _ _ _ (T4.setTop (mkF m 61 #[.val (.ref o), .val (.int (Int32.ofNat f)), .val (.int (0 : Int32)), .val (.int (Int32.ofNat f)), .val (.long (0 : Int64)), .second] [(.int (Int32.ofNat f)), (.long (-1 : Int64)), (.long (v ^^^ (-1 : Int64)))]))
    refine Go.step (fun _ k => XS.lshl X4.here hx rfl (hb hby d8_61) rfl k) ?_
    show Go _ _ _ _ (T4.setTop (mkF m 62 #[.val (.ref o), .val (.int (Int32.ofNat f)), .val (.int (0 : Int32)), .val (.int (Int32.ofNat f)), .val (.long (0 : Int64)), .second] [(.long ((-1 : Int64) <<< ((Int32.ofNat f) &&& 0x3f).toInt64)), (.long (v ^^^ (-1 : Int64)))]))
    refine Go.step (fun _ k => XS.land X4.here hx rfl (hb hby d8_62) rfl k) ?_
    show Go _ _ _ _ (T4.setTop (mkF m 63 #[.val (.ref o), .val (.int (Int32.ofNat f)), .val (.int (0 : Int32)), .val (.int (Int32.ofNat f)), .val (.long (0 : Int64)), .second] [(.long ((v ^^^ (-1 : Int64)) &&& ((-1 : Int64) <<< ((Int32.ofNat f) &&& 0x3f).toInt64)))]))
    refine Go.step (fun _ k => XS.lstore X4.here hx rfl (hb hby d8_63) rfl (l' := #[.val (.ref o), .val (.int (Int32.ofNat f)), .val (.int (0 : Int32)), .val (.int (Int32.ofNat f)), .val (.long ((v ^^^ (-1 : Int64)) &&& ((-1 : Int64) <<< ((Int32.ofNat f) &&& 0x3f).toInt64))), .second]) rfl k) ?_
    show Go _ _ _ _ (T4.setTop (mkF m 65 #[.val (.ref o), .val (.int (Int32.ofNat f)), .val (.int (0 : Int32)), .val (.int (Int32.ofNat f)), .val (.long ((v ^^^ (-1 : Int64)) &&& ((-1 : Int64) <<< ((Int32.ofNat f) &&& 0x3f).toInt64))), .second] []))
    refine Go.step (fun _ k => XS.lload X4.here hx rfl (hb hby d8_65) rfl k) ?_
    show Go _ _ _ _ (T4.setTop (mkF m 67 #[.val (.ref o), .val (.int (Int32.ofNat f)), .val (.int (0 : Int32)), .val (.int (Int32.ofNat f)), .val (.long ((v ^^^ (-1 : Int64)) &&& ((-1 : Int64) <<< ((Int32.ofNat f) &&& 0x3f).toInt64))), .second] [(.long ((v ^^^ (-1 : Int64)) &&& ((-1 : Int64) <<< ((Int32.ofNat f) &&& 0x3f).toInt64)))]))
    refine Go.step (fun _ k => XS.lconst X4.here hx rfl (hb hby d8_67) k) ?_
    show Go _ _ _ _ (T4.setTop (mkF m 68 #[.val (.ref o), .val (.int (Int32.ofNat f)), .val (.int (0 : Int32)), .val (.int (Int32.ofNat f)), .val (.long ((v ^^^ (-1 : Int64)) &&& ((-1 : Int64) <<< ((Int32.ofNat f) &&& 0x3f).toInt64))), .second] [(.long (0 : Int64)), (.long ((v ^^^ (-1 : Int64)) &&& ((-1 : Int64) <<< ((Int32.ofNat f) &&& 0x3f).toInt64)))]))
    refine Go.step (fun _ k => XS.lcmp X4.here hx rfl (hb hby d8_68) rfl k) ?_
    show Go _ _ _ _ (T4.setTop (mkF m 69 #[.val (.ref o), .val (.int (Int32.ofNat f)), .val (.int (0 : Int32)), .val (.int (Int32.ofNat f)), .val (.long ((v ^^^ (-1 : Int64)) &&& ((-1 : Int64) <<< ((Int32.ofNat f) &&& 0x3f).toInt64))), .second] [(.int (lcmpW ((v ^^^ (-1 : Int64)) &&& ((-1 : Int64) <<< ((Int32.ofNat f) &&& 0x3f).toInt64)) (0 : Int64)))]))
    by_cases hc5 : ((v ^^^ (-1 : Int64)) &&& ((-1 : Int64) <<< ((Int32.ofNat f) &&& 0x3f).toInt64)) = (0 : Int64)
    · refine Go.step (fun _ k => XS.ifNo X4.here hx rfl (hb hby d8_69) rfl ((if0 _ _).trans (teq ((lw_eq _ _).mpr hc5)).2) k) ?_
      show Go _ _ _ _ (T4.setTop (mkF m 72 #[.val (.ref o), .val (.int (Int32.ofNat f)), .val (.int (0 : Int32)), .val (.int (Int32.ofNat f)), .val (.long ((v ^^^ (-1 : Int64)) &&& ((-1 : Int64) <<< ((Int32.ofNat f) &&& 0x3f).toInt64))), .second] []))
      refine Go.step (fun _ k => XS.iloadN X4.here hx rfl (hb hby d8_72) rfl k) ?_
      show Go _ _ _ _ (T4.setTop (mkF m 73 #[.val (.ref o), .val (.int (Int32.ofNat f)), .val (.int (0 : Int32)), .val (.int (Int32.ofNat f)), .val (.long ((v ^^^ (-1 : Int64)) &&& ((-1 : Int64) <<< ((Int32.ofNat f) &&& 0x3f).toInt64))), .second] [(.int (Int32.ofNat f))]))
      refine Go.step (fun _ k => XS.bipush X4.here hx rfl (hb hby d8_73) k) ?_
      show Go _ _ _ _ (T4.setTop (mkF m 75 #[.val (.ref o), .val (.int (Int32.ofNat f)), .val (.int (0 : Int32)), .val (.int (Int32.ofNat f)), .val (.long ((v ^^^ (-1 : Int64)) &&& ((-1 : Int64) <<< ((Int32.ofNat f) &&& 0x3f).toInt64))), .second] [(.int (6 : Int32)), (.int (Int32.ofNat f))]))
      refine Go.step (fun _ k => XS.iushr X4.here hx rfl (hb hby d8_75) rfl k) ?_
      rw [own_shr6 (by omega)]
      show Go _ _ _ _ (T4.setTop (mkF m 76 #[.val (.ref o), .val (.int (Int32.ofNat f)), .val (.int (0 : Int32)), .val (.int (Int32.ofNat f)), .val (.long ((v ^^^ (-1 : Int64)) &&& ((-1 : Int64) <<< ((Int32.ofNat f) &&& 0x3f).toInt64))), .second] [(.int (Int32.ofNat (f / 64)))]))
      refine Go.step (fun _ k => XS.iconst X4.here hx rfl (hb hby d8_76) k) ?_
      show Go _ _ _ _ (T4.setTop (mkF m 77 #[.val (.ref o), .val (.int (Int32.ofNat f)), .val (.int (0 : Int32)), .val (.int (Int32.ofNat f)), .val (.long ((v ^^^ (-1 : Int64)) &&& ((-1 : Int64) <<< ((Int32.ofNat f) &&& 0x3f).toInt64))), .second] [(.int (1 : Int32)), (.int (Int32.ofNat (f / 64)))]))
      refine Go.step (fun _ k => XS.iadd X4.here hx rfl (hb hby d8_77) rfl k) ?_
      rw [own_one]
      show Go _ _ _ _ (T4.setTop (mkF m 78 #[.val (.ref o), .val (.int (Int32.ofNat f)), .val (.int (0 : Int32)), .val (.int (Int32.ofNat f)), .val (.long ((v ^^^ (-1 : Int64)) &&& ((-1 : Int64) <<< ((Int32.ofNat f) &&& 0x3f).toInt64))), .second] [(.int (Int32.ofNat (f / 64 + 1)))]))
      refine Go.step (fun _ k => XS.istoreN X4.here hx rfl (hb hby d8_78) rfl (l' := #[.val (.ref o), .val (.int (Int32.ofNat f)), .val (.int (0 : Int32)), .val (.int (Int32.ofNat (f / 64 + 1))), .val (.long ((v ^^^ (-1 : Int64)) &&& ((-1 : Int64) <<< ((Int32.ofNat f) &&& 0x3f).toInt64))), .second]) rfl k) ?_
      show Go _ _ _ _ (T4.setTop (mkF m 79 #[.val (.ref o), .val (.int (Int32.ofNat f)), .val (.int (0 : Int32)), .val (.int (Int32.ofNat (f / 64 + 1))), .val (.long ((v ^^^ (-1 : Int64)) &&& ((-1 : Int64) <<< ((Int32.ofNat f) &&& 0x3f).toInt64))), .second] []))
      refine Go.step (fun _ k => XS.iinc X4.here hx rfl (hb hby d8_79) rfl (l' := #[.val (.ref o), .val (.int (Int32.ofNat f)), .val (.int (1 : Int32)), .val (.int (Int32.ofNat (f / 64 + 1))), .val (.long ((v ^^^ (-1 : Int64)) &&& ((-1 : Int64) <<< ((Int32.ofNat f) &&& 0x3f).toInt64))), .second]) rfl k) ?_
      show Go _ _ _ _ (T4.setTop (mkF m 82 #[.val (.ref o), .val (.int (Int32.ofNat f)), .val (.int (1 : Int32)), .val (.int (Int32.ofNat (f / 64 + 1))), .val (.long ((v ^^^ (-1 : Int64)) &&& ((-1 : Int64) <<< ((Int32.ofNat f) &&& 0x3f).toInt64))), .second] []))
      refine Go.step (fun _ k => XS.goto X4.here hx rfl (pc0 := 82) (pc' := 7) rfl (hb hby d8_82) (by decide) (by decide) k) ?_
      show Go _ _ _ _ (T4.setTop (mkF m 7 #[.val (.ref o), .val (.int (Int32.ofNat f)), .val (.int (1 : Int32)), .val (.int (Int32.ofNat (f / 64 + 1))), .val (.long ((v ^^^ (-1 : Int64)) &&& ((-1 : Int64) <<< ((Int32.ofNat f) &&& 0x3f).toInt64))), .second] []))
      refine Go.step (fun _ k => XS.lload X4.here hx rfl (hb hby d8_7) rfl k) ?_
      show Go _ _ _ _ (T4.setTop (mkF m 9 #[.val (.ref o), .val (.int (Int32.ofNat f)), .val (.int (1 : Int32)), .val (.int (Int32.ofNat (f / 64 + 1))), .val (.long ((v ^^^ (-1 : Int64)) &&& ((-1 : Int64) <<< ((Int32.ofNat f) &&& 0x3f).toInt64))), .second] [(.long ((v ^^^ (-1 : Int64)) &&& ((-1 : Int64) <<< ((Int32.ofNat f) &&& 0x3f).toInt64)))]))
      refine Go.step (fun _ k => XS.lconst X4.here hx rfl (hb hby d8_9) k) ?_
      show Go _ _ _ _ (T4.setTop (mkF m 10 #[.val (.ref o), .val (.int (Int32.ofNat f)), .val (.int (1 : Int32)), .val (.int (Int32.ofNat (f / 64 + 1))), .val (.long ((v ^^^ (-1 : Int64)) &&& ((-1 : Int64) <<< ((Int32.ofNat f) &&& 0x3f).toInt64))), .second] [(.long (0 : Int64)), (.long ((v ^^^ (-1 : Int64)) &&& ((-1 : Int64) <<< ((Int32.ofNat f) &&& 0x3f).toInt64)))]))
      refine Go.step (fun _ k => XS.lcmp X4.here hx rfl (hb hby d8_10) rfl k) ?_
      show Go _ _ _ _ (T4.setTop (mkF m 11 #[.val (.ref o), .val (.int (Int32.ofNat f)), .val (.int (1 : Int32)), .val (.int (Int32.ofNat (f / 64 + 1))), .val (.long ((v ^^^ (-1 : Int64)) &&& ((-1 : Int64) <<< ((Int32.ofNat f) &&& 0x3f).toInt64))), .second] [(.int (lcmpW ((v ^^^ (-1 : Int64)) &&& ((-1 : Int64) <<< ((Int32.ofNat f) &&& 0x3f).toInt64)) (0 : Int64)))]))
      refine Go.step (fun _ k => XS.ifNo X4.here hx rfl (hb hby d8_11) rfl ((if0 _ _).trans (teq ((lw_eq _ _).mpr hc5)).2) k) ?_
      show Go _ _ _ _ (T4.setTop (mkF m 14 #[.val (.ref o), .val (.int (Int32.ofNat f)), .val (.int (1 : Int32)), .val (.int (Int32.ofNat (f / 64 + 1))), .val (.long ((v ^^^ (-1 : Int64)) &&& ((-1 : Int64) <<< ((Int32.ofNat f) &&& 0x3f).toInt64))), .second] []))
      refine Go.step (fun _ k => XS.iloadN X4.here hx rfl (hb hby d8_14) rfl k) ?_
      show Go _ _ _ _ (T4.setTop (mkF m 15 #[.val (.ref o), .val (.int (Int32.ofNat f)), .val (.int (1 : Int32)), .val (.int (Int32.ofNat (f / 64 + 1))), .val (.long ((v ^^^ (-1 : Int64)) &&& ((-1 : Int64) <<< ((Int32.ofNat f) &&& 0x3f).toInt64))), .second] [(.int (1 : Int32))]))
      refine Go.step (fun _ k => XS.aloadN X4.here hx rfl (hb hby d8_15) rfl rfl k) ?_
      show Go _ _ _ _ (T4.setTop (mkF m 16 #[.val (.ref o), .val (.int (Int32.ofNat f)), .val (.int (1 : Int32)), .val (.int (Int32.ofNat (f / 64 + 1))), .val (.long ((v ^^^ (-1 : Int64)) &&& ((-1 : Int64) <<< ((Int32.ofNat f) &&& 0x3f).toInt64))), .second] [(.ref o), (.int (1 : Int32))]))
      obtain ⟨T6, X6, e6, st6⟩ := getF X4 hx hZ hown (host := "") (Or.inl (hw _ (List.mem_of_getElem? (i := 14) rfl))) Via.refl e4 FL (g := (mkF m 16 #[.val (.ref o), .val (.int (Int32.ofNat f)), .val (.int (1 : Int32)), .val (.int (Int32.ofNat (f / 64 + 1))), .val (.long ((v ^^^ (-1 : Int64)) &&& ((-1 : Int64) <<< ((Int32.ofNat f) &&& 0x3f).toInt64))), .second] [(.ref o), (.int (1 : Int32))])) rfl rfl (hb hby d8_16)
      refine Go.step st6 ?_
      show Go _ _ _ _ (T6.setTop (mkF m 19 #[.val (.ref o), .val (.int (Int32.ofNat f)), .val (.int (1 : Int32)), .val (.int (Int32.ofNat (f / 64 + 1))), .val (.long ((v ^^^ (-1 : Int64)) &&& ((-1 : Int64) <<< ((Int32.ofNat f) &&& 0x3f).toInt64))), .second] [(.ref tl), (.int (1 : Int32))]))
      refine Go.step (fun tg k => X6.arraylength hx (by rw [e6]; exact AT.1) (State.isArrayOf_alike hZ.alike AT.2.1) (g := (mkF m 19 #[.val (.ref o), .val (.int (Int32.ofNat f)), .val (.int (1 : Int32)), .val (.int (Int32.ofNat (f / 64 + 1))), .val (.long ((v ^^^ (-1 : Int64)) &&& ((-1 : Int64) <<< ((Int32.ofNat f) &&& 0x3f).toInt64))), .second] [(.ref tl), (.int (1 : Int32))])) rfl rfl (hb hby d8_19) tg k) ?_
      rw [hsz]
      show Go _ _ _ _ (T6.setTop (mkF m 20 #[.val (.ref o), .val (.int (Int32.ofNat f)), .val (.int (1 : Int32)), .val (.int (Int32.ofNat (f / 64 + 1))), .val (.long ((v ^^^ (-1 : Int64)) &&& ((-1 : Int64) <<< ((Int32.ofNat f) &&& 0x3f).toInt64))), .second] [(.int (Int32.ofNat 1)), (.int (1 : Int32))]))
      refine Go.step (fun _ k => XS.icmpYes X6.here hx rfl (pc0 := 20) (pc' := 37) rfl (hb hby d8_20) rfl (teq (show ((1 : Int32) = (Int32.ofNat 1)) from (by decide : ((1 : Int32) = (Int32.ofNat 1))))).1 (by decide) (by decide) k) ?_
      show Go _ _ _ _ (T6.setTop (mkF m 37 #[.val (.ref o), .val (.int (Int32.ofNat f)), .val (.int (1 : Int32)), .val (.int (Int32.ofNat (f / 64 + 1))), .val (.long ((v ^^^ (-1 : Int64)) &&& ((-1 : Int64) <<< ((Int32.ofNat f) &&& 0x3f).toInt64))), .second] []))
      refine Go.step (fun _ k => XS.aloadN X6.here hx rfl (hb hby d8_37) rfl rfl k) ?_
      show Go _ _ _ _ (T6.setTop (mkF m 38 #[.val (.ref o), .val (.int (Int32.ofNat f)), .val (.int (1 : Int32)), .val (.int (Int32.ofNat (f / 64 + 1))), .val (.long ((v ^^^ (-1 : Int64)) &&& ((-1 : Int64) <<< ((Int32.ofNat f) &&& 0x3f).toInt64))), .second] [(.ref o)]))
      obtain ⟨T7, X7, e7, st7⟩ := getF X6 hx hZ hown (host := "") (Or.inl (hw _ (List.mem_of_getElem? (i := 10) rfl))) Via.refl e6 FC (g := (mkF m 38 #[.val (.ref o), .val (.int (Int32.ofNat f)), .val (.int (1 : Int32)), .val (.int (Int32.ofNat (f / 64 + 1))), .val (.long ((v ^^^ (-1 : Int64)) &&& ((-1 : Int64) <<< ((Int32.ofNat f) &&& 0x3f).toInt64))), .second] [(.ref o)])) rfl rfl (hb hby d8_38)
      refine Go.step st7 ?_
      show Go _ _ _ _ (T7.setTop (mkF m 41 #[.val (.ref o), .val (.int (Int32.ofNat f)), .val (.int (1 : Int32)), .val (.int (Int32.ofNat (f / 64 + 1))), .val (.long ((v ^^^ (-1 : Int64)) &&& ((-1 : Int64) <<< ((Int32.ofNat f) &&& 0x3f).toInt64))), .second] [(.int (Int32.ofNat (64 * N)))]))
      have g64 := (own_lt (by omega) (by omega)).mp hc3
      have r0 := hWd.room0 (by omega) hc5
      exact leafI X7 hx hret hlk (hb hby d8_41) ⟨⟨64 * N, rfl, Or.inr ⟨by omega, by omega, Nat.le_refl _, fun q => absurd q (Nat.lt_irrefl _), fun y h1 h2 => r0 y h1 (by omega)⟩⟩, e7, rfl⟩ (by decide) (by decide)
    · refine Go.step (fun _ k => XS.ifYes X4.here hx rfl (pc0 := 69) (pc' := 7) rfl (hb hby d8_69) rfl ((if0 _ _).trans (feq (fun q => hc5 ((lw_eq _ _).mp q))).2) (by decide) (by decide) k) ?_
      show Go _ _ _ _ (T4.setTop (mkF m 7 #[.val (.ref o), .val (.int (Int32.ofNat f)), .val (.int (0 : Int32)), .val (.int (Int32.ofNat f)), .val (.long ((v ^^^ (-1 : Int64)) &&& ((-1 : Int64) <<< ((Int32.ofNat f) &&& 0x3f).toInt64))), .second] []))
      refine Go.step (fun _ k => XS.lload X4.here hx rfl (hb hby d8_7) rfl k) ?_
      show Go _ _ _ _ (T4.setTop (mkF m 9 #[.val (.ref o), .val (.int (Int32.ofNat f)), .val (.int (0 : Int32)), .val (.int (Int32.ofNat f)), .val (.long ((v ^^^ (-1 : Int64)) &&& ((-1 : Int64) <<< ((Int32.ofNat f) &&& 0x3f).toInt64))), .second] [(.long ((v ^^^ (-1 : Int64)) &&& ((-1 : Int64) <<< ((Int32.ofNat f) &&& 0x3f).toInt64)))]))
      refine Go.step (fun _ k => XS.lconst X4.here hx rfl (hb hby d8_9) k) ?_
      show Go _ _ _ _ (T4.setTop (mkF m 10 #[.val (.ref o), .val (.int (Int32.ofNat f)), .val (.int (0 : Int32)), .val (.int (Int32.ofNat f)), .val (.long ((v ^^^ (-1 : Int64)) &&& ((-1 : Int64) <<< ((Int32.ofNat f) &&& 0x3f).toInt64))), .second] [(.long (0 : Int64)), (.long ((v ^^^ (-1 : Int64)) &&& ((-1 : Int64) <<< ((Int32.ofNat f) &&& 0x3f).toInt64)))]))
      refine Go.step (fun _ k => XS.lcmp X4.here hx rfl (hb hby d8_10) rfl k) ?_
      show Go _ _ _ _ (T4.setTop (mkF m 11 #[.val (.ref o), .val (.int (Int32.ofNat f)), .val (.int (0 : Int32)), .val (.int (Int32.ofNat f)), .val (.long ((v ^^^ (-1 : Int64)) &&& ((-1 : Int64) <<< ((Int32.ofNat f) &&& 0x3f).toInt64))), .second] [(.int (lcmpW ((v ^^^ (-1 : Int64)) &&& ((-1 : Int64) <<< ((Int32.ofNat f) &&& 0x3f).toInt64)) (0 : Int64)))]))
      refine Go.step (fun _ k => XS.ifYes X4.here hx rfl (pc0 := 11) (pc' := 85) rfl (hb hby d8_11) rfl ((if0 _ _).trans (feq (fun q => hc5 ((lw_eq _ _).mp q))).2) (by decide) (by decide) k) ?_
      show Go _ _ _ _ (T4.setTop (mkF m 85 #[.val (.ref o), .val (.int (Int32.ofNat f)), .val (.int (0 : Int32)), .val (.int (Int32.ofNat f)), .val (.long ((v ^^^ (-1 : Int64)) &&& ((-1 : Int64) <<< ((Int32.ofNat f) &&& 0x3f).toInt64))), .second] []))
      refine Go.step (fun _ k => XS.iloadN X4.here hx rfl (hb hby d8_85) rfl k) ?_
      show Go _ _ _ _ (T4.setTop (mkF m 86 #[.val (.ref o), .val (.int (Int32.ofNat f)), .val (.int (0 : Int32)), .val (.int (Int32.ofNat f)), .val (.long ((v ^^^ (-1 : Int64)) &&& ((-1 : Int64) <<< ((Int32.ofNat f) &&& 0x3f).toInt64))), .second] [(.int (Int32.ofNat f))]))
      refine Go.step (fun _ k => XS.bipush X4.here hx rfl (hb hby d8_86) k) ?_
      show Go _ _ _ _ (T4.setTop (mkF m 88 #[.val (.ref o), .val (.int (Int32.ofNat f)), .val (.int (0 : Int32)), .val (.int (Int32.ofNat f)), .val (.long ((v ^^^ (-1 : Int64)) &&& ((-1 : Int64) <<< ((Int32.ofNat f) &&& 0x3f).toInt64))), .second] [(.int (-64 : Int32)), (.int (Int32.ofNat f))]))
      refine Go.step (fun _ k => XS.iand X4.here hx rfl (hb hby d8_88) rfl k) ?_
      rw [own_hi64 (by omega)]
      show Go _ _ _ _ (T4.setTop (mkF m 89 #[.val (.ref o), .val (.int (Int32.ofNat f)), .val (.int (0 : Int32)), .val (.int (Int32.ofNat f)), .val (.long ((v ^^^ (-1 : Int64)) &&& ((-1 : Int64) <<< ((Int32.ofNat f) &&& 0x3f).toInt64))), .second] [(.int (Int32.ofNat (64 * (f / 64))))]))
      refine Go.step (fun _ k => XS.lload X4.here hx rfl (hb hby d8_89) rfl k) ?_
      show Go _ _ _ _ (T4.setTop (mkF m 91 #[.val (.ref o), .val (.int (Int32.ofNat f)), .val (.int (0 : Int32)), .val (.int (Int32.ofNat f)), .val (.long ((v ^^^ (-1 : Int64)) &&& ((-1 : Int64) <<< ((Int32.ofNat f) &&& 0x3f).toInt64))), .second] [(.long ((v ^^^ (-1 : Int64)) &&& ((-1 : Int64) <<< ((Int32.ofNat f) &&& 0x3f).toInt64))), (.int (Int32.ofNat (64 * (f / 64))))]))
      refine goS X4 hx hZ hown (hw _ (List.mem_of_getElem? (i := 47) rfl)) (hw _ (List.mem_of_getElem? (i := 48) rfl)) (hw _ (List.mem_of_getElem? (i := 49) rfl)) (hw _ (List.mem_of_getElem? (i := 50) rfl)) (by decide) (rm9 l Z a0 hw [] ((v ^^^ (-1 : Int64)) &&& ((-1 : Int64) <<< ((Int32.ofNat f) &&& 0x3f).toInt64)) h0 hc5) e4 (by rw [hml]; rfl) [(.long ((v ^^^ (-1 : Int64)) &&& ((-1 : Int64) <<< ((Int32.ofNat f) &&& 0x3f).toInt64)))] [(.int (Int32.ofNat (64 * (f / 64))))] rfl pd9 rfl rfl 1 rfl (hb hby d8_91) (by decide) (by decide) (by decide) (by decide) fun T9 L9 v9 q9 X9 => ?_
      obtain ⟨⟨k8, rfl, hk8⟩, e9, rfl⟩ := q9
      rw [List.append_nil] at X9
      obtain ⟨K, k1, rfl, k3, k4, k5⟩ := hWd.roomN (by omega) hk8
      show Go _ _ _ _ (T9.setTop (mkF m 94 #[.val (.ref o), .val (.int (Int32.ofNat f)), .val (.int (0 : Int32)), .val (.int (Int32.ofNat f)), .val (.long ((v ^^^ (-1 : Int64)) &&& ((-1 : Int64) <<< ((Int32.ofNat f) &&& 0x3f).toInt64))), .second] [(.int (Int32.ofNat K)), (.int (Int32.ofNat (64 * (f / 64))))]))
      refine Go.step (fun _ k => XS.ior X9.here hx rfl (hb hby d8_94) rfl k) ?_
      rw [own_join (by omega) k1]
      show Go _ _ _ _ (T9.setTop (mkF m 95 #[.val (.ref o), .val (.int (Int32.ofNat f)), .val (.int (0 : Int32)), .val (.int (Int32.ofNat f)), .val (.long ((v ^^^ (-1 : Int64)) &&& ((-1 : Int64) <<< ((Int32.ofNat f) &&& 0x3f).toInt64))), .second] [(.int (Int32.ofNat (64 * (f / 64) + K)))]))
      refine Go.step (fun _ k => XS.istoreN X9.here hx rfl (hb hby d8_95) rfl (l' := #[.val (.ref o), .val (.int (Int32.ofNat f)), .val (.int (0 : Int32)), .val (.int (Int32.ofNat (64 * (f / 64) + K))), .val (.long ((v ^^^ (-1 : Int64)) &&& ((-1 : Int64) <<< ((Int32.ofNat f) &&& 0x3f).toInt64))), .second]) rfl k) ?_
      show Go _ _ _ _ (T9.setTop (mkF m 96 #[.val (.ref o), .val (.int (Int32.ofNat f)), .val (.int (0 : Int32)), .val (.int (Int32.ofNat (64 * (f / 64) + K))), .val (.long ((v ^^^ (-1 : Int64)) &&& ((-1 : Int64) <<< ((Int32.ofNat f) &&& 0x3f).toInt64))), .second] []))
      refine Go.step (fun _ k => XS.iloadN X9.here hx rfl (hb hby d8_96) rfl k) ?_
      show Go _ _ _ _ (T9.setTop (mkF m 97 #[.val (.ref o), .val (.int (Int32.ofNat f)), .val (.int (0 : Int32)), .val (.int (Int32.ofNat (64 * (f / 64) + K))), .val (.long ((v ^^^ (-1 : Int64)) &&& ((-1 : Int64) <<< ((Int32.ofNat f) &&& 0x3f).toInt64))), .second] [(.int (0 : Int32))]))
      refine Go.step (fun _ k => XS.ifYes X9.here hx rfl (pc0 := 97) (pc' := 127) rfl (hb hby d8_97) rfl ((if0 _ _).trans (flt (by decide : ¬ ((0 : Int32) < (0 : Int32)))).2.2.2) (by decide) (by decide) k) ?_
      show Go _ _ _ _ (T9.setTop (mkF m 127 #[.val (.ref o), .val (.int (Int32.ofNat f)), .val (.int (0 : Int32)), .val (.int (Int32.ofNat (64 * (f / 64) + K))), .val (.long ((v ^^^ (-1 : Int64)) &&& ((-1 : Int64) <<< ((Int32.ofNat f) &&& 0x3f).toInt64))), .second] []))
      refine Go.step (fun _ k => XS.iloadN X9.here hx rfl (hb hby d8_127) rfl k) ?_
      show Go _ _ _ _ (T9.setTop (mkF m 128 #[.val (.ref o), .val (.int (Int32.ofNat f)), .val (.int (0 : Int32)), .val (.int (Int32.ofNat (64 * (f / 64) + K))), .val (.long ((v ^^^ (-1 : Int64)) &&& ((-1 : Int64) <<< ((Int32.ofNat f) &&& 0x3f).toInt64))), .second] [(.int (Int32.ofNat (64 * (f / 64) + K)))]))
      have g64 := (own_lt (by omega) (by omega)).mp hc3
      exact leafI X9 hx hret hlk (hb hby d8_128) ⟨⟨_, rfl, Or.inr ⟨by omega, k3, by omega, fun _ => k4, k5⟩⟩, e9, rfl⟩ (by decide) (by decide)
  · refine Go.step (fun _ k => XS.icmpNo X2.here hx rfl (hb hby d8_34) rfl (flt hc3).1 k) ?_
    show Go _ _ _ _ (T2.setTop (mkF m 37 #[.val (.ref o), .val (.int (Int32.ofNat f)), .val (.int (0 : Int32)), .val (.int (Int32.ofNat f)), .val (.long (0 : Int64)), .second] []))
    refine Go.step (fun _ k => XS.aloadN X2.here hx rfl (hb hby d8_37) rfl rfl k) ?_
    show Go _ _ _ _ (T2.setTop (mkF m 38 #[.val (.ref o), .val (.int (Int32.ofNat f)), .val (.int (0 : Int32)), .val (.int (Int32.ofNat f)), .val (.long (0 : Int64)), .second] [(.ref o)]))
    obtain ⟨T10, X10, e10, st10⟩ := getF X2 hx hZ hown (host := "") (Or.inl (hw _ (List.mem_of_getElem? (i := 10) rfl))) Via.refl e2 FC (g := (mkF m 38 #[.val (.ref o), .val (.int (Int32.ofNat f)), .val (.int (0 : Int32)), .val (.int (Int32.ofNat f)), .val (.long (0 : Int64)), .second] [(.ref o)])) rfl rfl (hb hby d8_38)
    refine Go.step st10 ?_
    show Go _ _ _ _ (T10.setTop (mkF m 41 #[.val (.ref o), .val (.int (Int32.ofNat f)), .val (.int (0 : Int32)), .val (.int (Int32.ofNat f)), .val (.long (0 : Int64)), .second] [(.int (Int32.ofNat (64 * N)))]))
    have g64 := fun q => hc3 ((own_lt (by omega) (by omega)).mpr q)
    exact leafI X10 hx hret hlk (hb hby d8_41) ⟨⟨64 * N, rfl, Or.inl ⟨by have : ¬ f / 64 < N := g64; omega, rfl⟩⟩, e10, rfl⟩ (by decide) (by decide)
set_option maxRecDepth 65536 in
set_option maxHeartbeats 40000000 in
theorem rmA2 (l : Launch) (Z : State) (a0 : Array Value) (hw : ∀ d ∈ tables_1, d.before a0 Z = true) (ws : List Jvm.Cond)  (h0 : Heap) (o tl t0 t1 : Addr) (N f : Nat) (cT : Cell) (g : Nat → Bool) (hsz : cT.slots.size = 2) (hc0 : cT.slots[0]? = some (.ref t0)) (hc1 : cT.slots[1]? = some (.ref t1)) (HL1 : Lv Z h0 t1 1 (fun j => decide (N ≤ j))) (FL : Fld Z h0 o "com/example/prefix_scope/prefixscope/NumberSet" "levels" "[[J" (.ref tl)) (FC : Fld Z h0 o "com/example/prefix_scope/prefixscope/NumberSet" "capacity" "I" (.int (Int32.ofNat (64 * N)))) (AT : Arr Z h0 tl cT (.array .long)) (HL : Lv Z h0 t0 N g) (hN : N ≤ 4) (hN2 : 1 < N) (hf : f < 2147483648) (hR : ∀ w, w < N → ∃ j, j < 64 ∧ g (64 * w + j) = false) : Con l Z (⟨"com/example/prefix_scope/prefixscope/NumberSet", "firstAbsent", "(I)I"⟩ : MethodName) prog_9_method_5_code 6 (some .int) ws ({ frames := 2, cells := 0, slots := 0, locals := 40 } : Room) #[(.ref o), (.int (Int32.ofNat f))] h0 (fun v h L => (∃ r : Nat, v = some (.int (Int32.ofNat r)) ∧ FA g N f r) ∧ h = h0 ∧ L = []) := by
  refine Con.of pn8 fun p e s m below meth c s₁ hZ hx hby hml hown hret hlk hnm X0 e0 => ?_
  rw [ef8]
  obtain ⟨cl, AL, SL, HW⟩ := HL
  obtain ⟨cl1, A1, S1, H1⟩ := HL1
  obtain ⟨v1, hv1, hWd1⟩ := H1 0 (by omega)
  show Go _ _ _ _ (s₁.setTop (mkF m 0 #[.val (.ref o), .val (.int (Int32.ofNat f)), .unset, .unset, .unset, .unset] []))
  refine Go.step (fun _ k => XS.iconst X0.here hx rfl (hb hby d8_0) k) ?_
  show Go _ _ _ _ (s₁.setTop (mkF m 1 #[.val (.ref o), .val (.int (Int32.ofNat f)), .unset, .unset, .unset, .unset] [(.int (0 : Int32))]))
  refine Go.step (fun _ k => XS.istoreN X0.here hx rfl (hb hby d8_1) rfl (l' := #[.val (.ref o), .val (.int (Int32.ofNat f)), .val (.int (0 : Int32)), .unset, .unset, .unset]) rfl k) ?_
  show Go _ _ _ _ (s₁.setTop (mkF m 2 #[.val (.ref o), .val (.int (Int32.ofNat f)), .val (.int (0 : Int32)), .unset, .unset, .unset] []))
  refine Go.step (fun _ k => XS.iloadN X0.here hx rfl (hb hby d8_2) rfl k) ?_
  show Go _ _ _ _ (s₁.setTop (mkF m 3 #[.val (.ref o), .val (.int (Int32.ofNat f)), .val (.int (0 : Int32)), .unset, .unset, .unset] [(.int (Int32.ofNat f))]))
  refine Go.step (fun _ k => XS.istoreN X0.here hx rfl (hb hby d8_3) rfl (l' := #[.val (.ref o), .val (.int (Int32.ofNat f)), .val (.int (0 : Int32)), .val (.int (Int32.ofNat f)), .unset, .unset]) rfl k) ?_
  show Go _ _ _ _ (s₁.setTop (mkF m 4 #[.val (.ref o), .val (.int (Int32.ofNat f)), .val (.int (0 : Int32)), .val (.int (Int32.ofNat f)), .unset, .unset] []))
  refine Go.step (fun _ k => XS.lconst X0.here hx rfl (hb hby d8_4) k) ?_
  show Go _ _ _ _ (s₁.setTop (mkF m 5 #[.val (.ref o), .val (.int (Int32.ofNat f)), .val (.int (0 : Int32)), .val (.int (Int32.ofNat f)), .unset, .unset] [(.long (0 : Int64))]))
  refine Go.step (fun _ k => XS.lstore X0.here hx rfl (hb hby d8_5) rfl (l' := #[.val (.ref o), .val (.int (Int32.ofNat f)), .val (.int (0 : Int32)), .val (.int (Int32.ofNat f)), .val (.long (0 : Int64)), .second]) rfl k) ?_
  show Go _ _ _ _ (s₁.setTop (mkF m 7 #[.val (.ref o), .val (.int (Int32.ofNat f)), .val (.int (0 : Int32)), .val (.int (Int32.ofNat f)), .val (.long (0 : Int64)), .second] []))
  refine Go.step (fun _ k => XS.lload X0.here hx rfl (hb hby d8_7) rfl k) ?_
  show Go _ _ _ _ (s₁.setTop (mkF m 9 #[.val (.ref o), .val (.int (Int32.ofNat f)), .val (.int (0 : Int32)), .val (.int (Int32.ofNat f)), .val (.long (0 : Int64)), .second] [(.long (0 : Int64))]))
  refine Go.step (fun _ k => XS.lconst X0.here hx rfl (hb hby d8_9) k) ?_
  show Go _ _ _ _ (s₁.setTop (mkF m 10 #[.val (.ref o), .val (.int (Int32.ofNat f)), .val (.int (0 : Int32)), .val (.int (Int32.ofNat f)), .val (.long (0 : Int64)), .second] [(.long (0 : Int64)), (.long (0 : Int64))]))
  refine Go.step (fun _ k => XS.lcmp X0.here hx rfl (hb hby d8_10) rfl k) ?_
  show Go _ _ _ _ (s₁.setTop (mkF m 11 #[.val (.ref o), .val (.int (Int32.ofNat f)), .val (.int (0 : Int32)), .val (.int (Int32.ofNat f)), .val (.long (0 : Int64)), .second] [(.int (lcmpW (0 : Int64) (0 : Int64)))]))
  refine Go.step (fun _ k => XS.ifNo X0.here hx rfl (hb hby d8_11) rfl ((if0 _ _).trans (teq ((lw_eq _ _).mpr (by decide : ((0 : Int64) = (0 : Int64))))).2) k) ?_
  show Go _ _ _ _ (s₁.setTop (mkF m 14 #[.val (.ref o), .val (.int (Int32.ofNat f)), .val (.int (0 : Int32)), .val (.int (Int32.ofNat f)), .val (.long (0 : Int64)), .second] []))
  refine Go.step (fun _ k => XS.iloadN X0.here hx rfl (hb hby d8_14) rfl k) ?_
  show Go _ _ _ _ (s₁.setTop (mkF m 15 #[.val (.ref o), .val (.int (Int32.ofNat f)), .val (.int (0 : Int32)), .val (.int (Int32.ofNat f)), .val (.long (0 : Int64)), .second] [(.int (0 : Int32))]))
  refine Go.step (fun _ k => XS.aloadN X0.here hx rfl (hb hby d8_15) rfl rfl k) ?_
  show Go _ _ _ _ (s₁.setTop (mkF m 16 #[.val (.ref o), .val (.int (Int32.ofNat f)), .val (.int (0 : Int32)), .val (.int (Int32.ofNat f)), .val (.long (0 : Int64)), .second] [(.ref o), (.int (0 : Int32))]))
  obtain ⟨T1, X1, e1, st1⟩ := getF X0 hx hZ hown (host := "") (Or.inl (hw _ (List.mem_of_getElem? (i := 14) rfl))) Via.refl e0 FL (g := (mkF m 16 #[.val (.ref o), .val (.int (Int32.ofNat f)), .val (.int (0 : Int32)), .val (.int (Int32.ofNat f)), .val (.long (0 : Int64)), .second] [(.ref o), (.int (0 : Int32))])) rfl rfl (hb hby d8_16)
  refine Go.step st1 ?_
  show Go _ _ _ _ (T1.setTop (mkF m 19 #[.val (.ref o), .val (.int (Int32.ofNat f)), .val (.int (0 : Int32)), .val (.int (Int32.ofNat f)), .val (.long (0 : Int64)), .second] [(.ref tl), (.int (0 : Int32))]))
  refine Go.step (fun tg k => X1.arraylength hx (by rw [e1]; exact AT.1) (State.isArrayOf_alike hZ.alike AT.2.1) (g := (mkF m 19 #[.val (.ref o), .val (.int (Int32.ofNat f)), .val (.int (0 : Int32)), .val (.int (Int32.ofNat f)), .val (.long (0 : Int64)), .second] [(.ref tl), (.int (0 : Int32))])) rfl rfl (hb hby d8_19) tg k) ?_
  rw [hsz]
  show Go _ _ _ _ (T1.setTop (mkF m 20 #[.val (.ref o), .val (.int (Int32.ofNat f)), .val (.int (0 : Int32)), .val (.int (Int32.ofNat f)), .val (.long (0 : Int64)), .second] [(.int (Int32.ofNat 2)), (.int (0 : Int32))]))
  refine Go.step (fun _ k => XS.icmpNo X1.here hx rfl (hb hby d8_20) rfl (feq (show ¬ ((0 : Int32) = (Int32.ofNat 2)) from (by decide : ¬ ((0 : Int32) = (Int32.ofNat 2))))).1 k) ?_
  show Go _ _ _ _ (T1.setTop (mkF m 23 #[.val (.ref o), .val (.int (Int32.ofNat f)), .val (.int (0 : Int32)), .val (.int (Int32.ofNat f)), .val (.long (0 : Int64)), .second] []))
  refine Go.step (fun _ k => XS.iloadN X1.here hx rfl (hb hby d8_23) rfl k) ?_
  show Go _ _ _ _ (T1.setTop (mkF m 24 #[.val (.ref o), .val (.int (Int32.ofNat f)), .val (.int (0 : Int32)), .val (.int (Int32.ofNat f)), .val (.long (0 : Int64)), .second] [(.int (Int32.ofNat f))]))
  refine Go.step (fun _ k => XS.bipush X1.here hx rfl (hb hby d8_24) k) ?_
  show Go _ _ _ _ (T1.setTop (mkF m 26 #[.val (.ref o), .val (.int (Int32.ofNat f)), .val (.int (0 : Int32)), .val (.int (Int32.ofNat f)), .val (.long (0 : Int64)), .second] [(.int (6 : Int32)), (.int (Int32.ofNat f))]))
  refine Go.step (fun _ k => XS.iushr X1.here hx rfl (hb hby d8_26) rfl k) ?_
  rw [own_shr6 (by omega)]
  show Go _ _ _ _ (T1.setTop (mkF m 27 #[.val (.ref o), .val (.int (Int32.ofNat f)), .val (.int (0 : Int32)), .val (.int (Int32.ofNat f)), .val (.long (0 : Int64)), .second] [(.int (Int32.ofNat (f / 64)))]))
  refine Go.step (fun _ k => XS.aloadN X1.here hx rfl (hb hby d8_27) rfl rfl k) ?_
  show Go _ _ _ _ (T1.setTop (mkF m 28 #[.val (.ref o), .val (.int (Int32.ofNat f)), .val (.int (0 : Int32)), .val (.int (Int32.ofNat f)), .val (.long (0 : Int64)), .second] [(.ref o), (.int (Int32.ofNat (f / 64)))]))
  obtain ⟨T2, X2, e2, st2⟩ := getF X1 hx hZ hown (host := "") (Or.inl (hw _ (List.mem_of_getElem? (i := 14) rfl))) Via.refl e1 FL (g := (mkF m 28 #[.val (.ref o), .val (.int (Int32.ofNat f)), .val (.int (0 : Int32)), .val (.int (Int32.ofNat f)), .val (.long (0 : Int64)), .second] [(.ref o), (.int (Int32.ofNat (f / 64)))])) rfl rfl (hb hby d8_28)
  refine Go.step st2 ?_
  show Go _ _ _ _ (T2.setTop (mkF m 31 #[.val (.ref o), .val (.int (Int32.ofNat f)), .val (.int (0 : Int32)), .val (.int (Int32.ofNat f)), .val (.long (0 : Int64)), .second] [(.ref tl), (.int (Int32.ofNat (f / 64)))]))
  refine Go.step (fun _ k => XS.iloadN X2.here hx rfl (hb hby d8_31) rfl k) ?_
  show Go _ _ _ _ (T2.setTop (mkF m 32 #[.val (.ref o), .val (.int (Int32.ofNat f)), .val (.int (0 : Int32)), .val (.int (Int32.ofNat f)), .val (.long (0 : Int64)), .second] [(.int (0 : Int32)), (.ref tl), (.int (Int32.ofNat (f / 64)))]))
  refine Go.step (fun tg k => X2.aaload hx (j := (0 : Int32)) (v := (.ref t0)) (by rw [e2]; exact AT.1) (State.isArrayOf_alike hZ.alike AT.2.1) rfl AT.2.2 (own_in (i := 0) (by omega) (by omega)) hc0 (g := (mkF m 32 #[.val (.ref o), .val (.int (Int32.ofNat f)), .val (.int (0 : Int32)), .val (.int (Int32.ofNat f)), .val (.long (0 : Int64)), .second] [(.int (0 : Int32)), (.ref tl), (.int (Int32.ofNat (f / 64)))])) rfl rfl (hb hby d8_32) tg k) ?_
  show Go _ _ _ _ (T2.setTop (mkF m 33 #[.val (.ref o), .val (.int (Int32.ofNat f)), .val (.int (0 : Int32)), .val (.int (Int32.ofNat f)), .val (.long (0 : Int64)), .second] [(.ref t0), (.int (Int32.ofNat (f / 64)))]))
  refine Go.step (fun tg k => X2.arraylength hx (by rw [e2]; exact AL.1) (State.isArrayOf_alike hZ.alike AL.2.1) (g := (mkF m 33 #[.val (.ref o), .val (.int (Int32.ofNat f)), .val (.int (0 : Int32)), .val (.int (Int32.ofNat f)), .val (.long (0 : Int64)), .second] [(.ref t0), (.int (Int32.ofNat (f / 64)))])) rfl rfl (hb hby d8_33) tg k) ?_
  rw [SL]
  show Go _ _ _ _ (T2.setTop (mkF m 34 #[.val (.ref o), .val (.int (Int32.ofNat f)), .val (.int (0 : Int32)), .val (.int (Int32.ofNat f)), .val (.long (0 : Int64)), .second] [(.int (Int32.ofNat N)), (.int (Int32.ofNat (f / 64)))]))
  by_cases hc3 : (Int32.ofNat (f / 64)) < (Int32.ofNat N)
  · refine Go.step (fun _ k => XS.icmpYes X2.here hx rfl (pc0 := 34) (pc' := 42) rfl (hb hby d8_34) rfl (tlt hc3).1 (by decide) (by decide) k) ?_
    show Go _ _ _ _ (T2.setTop (mkF m 42 #[.val (.ref o), .val (.int (Int32.ofNat f)), .val (.int (0 : Int32)), .val (.int (Int32.ofNat f)), .val (.long (0 : Int64)), .second] []))
    refine Go.step (fun _ k => XS.aloadN X2.here hx rfl (hb hby d8_42) rfl rfl k) ?_
    show Go _ _ _ _ (T2.setTop (mkF m 43 #[.val (.ref o), .val (.int (Int32.ofNat f)), .val (.int (0 : Int32)), .val (.int (Int32.ofNat f)), .val (.long (0 : Int64)), .second] [(.ref o)]))
    obtain ⟨T4, X4, e4, st4⟩ := getF X2 hx hZ hown (host := "") (Or.inl (hw _ (List.mem_of_getElem? (i := 14) rfl))) Via.refl e2 FL (g := (mkF m 43 #[.val (.ref o), .val (.int (Int32.ofNat f)), .val (.int (0 : Int32)), .val (.int (Int32.ofNat f)), .val (.long (0 : Int64)), .second] [(.ref o)])) rfl rfl (hb hby d8_43)
    refine Go.step st4 ?_
    show Go _ _ _ _ (T4.setTop (mkF m 46 #[.val (.ref o), .val (.int (Int32.ofNat f)), .val (.int (0 : Int32)), .val (.int (Int32.ofNat f)), .val (.long (0 : Int64)), .second] [(.ref tl)]))
    refine Go.step (fun _ k => XS.iloadN X4.here hx rfl (hb hby d8_46) rfl k) ?_
    show Go _ _ _ _ (T4.setTop (mkF m 47 #[.val (.ref o), .val (.int (Int32.ofNat f)), .val (.int (0 : Int32)), .val (.int (Int32.ofNat f)), .val (.long (0 : Int64)), .second] [(.int (0 : Int32)), (.ref tl)]))
    refine Go.step (fun tg k => X4.aaload hx (j := (0 : Int32)) (v := (.ref t0)) (by rw [e4]; exact AT.1) (State.isArrayOf_alike hZ.alike AT.2.1) rfl AT.2.2 (own_in (i := 0) (by omega) (by omega)) hc0 (g := (mkF m 47 #[.val (.ref o), .val (.int (Int32.ofNat f)), .val (.int (0 : Int32)), .val (.int (Int32.ofNat f)), .val (.long (0 : Int64)), .second] [(.int (0 : Int32)), (.ref tl)])) rfl rfl (hb hby d8_47) tg k) ?_
    show Go _ _ _ _ (T4.setTop (mkF m 48 #[.val (.ref o), .val (.int (Int32.ofNat f)), .val (.int (0 : Int32)), .val (.int (Int32.ofNat f)), .val (.long (0 : Int64)), .second] [(.ref t0)]))
    refine Go.step (fun _ k => XS.iloadN X4.here hx rfl (hb hby d8_48) rfl k) ?_
    show Go _ _ _ _ (T4.setTop (mkF m 49 #[.val (.ref o), .val (.int (Int32.ofNat f)), .val (.int (0 : Int32)), .val (.int (Int32.ofNat f)), .val (.long (0 : Int64)), .second] [(.int (Int32.ofNat f)), (.ref t0)]))
    refine Go.step (fun _ k => XS.bipush X4.here hx rfl (hb hby d8_49) k) ?_
    show Go _ _ _ _ (T4.setTop (mkF m 51 #[.val (.ref o), .val (.int (Int32.ofNat f)), .val (.int (0 : Int32)), .val (.int (Int32.ofNat f)), .val (.long (0 : Int64)), .second] [(.int (6 : Int32)), (.int (Int32.ofNat f)), (.ref t0)]))
    refine Go.step (fun _ k => XS.iushr X4.here hx rfl (hb hby d8_51) rfl k) ?_
    rw [own_shr6 (by omega)]
    show Go _ _ _ _ (T4.setTop (mkF m 52 #[.val (.ref o), .val (.int (Int32.ofNat f)), .val (.int (0 : Int32)), .val (.int (Int32.ofNat f)), .val (.long (0 : Int64)), .second] [(.int (Int32.ofNat (f / 64))), (.ref t0)]))
    have hf64 : f / 64 < N := (own_lt (by omega) (by omega)).mp hc3
    obtain ⟨v, hv, hWd⟩ := HW (f / 64) hf64
    refine Go.step (fun tg k => X4.laload hx (j := (Int32.ofNat (f / 64))) (v := (.long v)) (by rw [e4]; exact AL.1) (State.isArrayOf_alike hZ.alike AL.2.1) AL.2.2 (own_in (by omega) (by omega)) (by rw [own_clamp (by omega)]; exact hv) (g := (mkF m 52 #[.val (.ref o), .val (.int (Int32.ofNat f)), .val (.int (0 : Int32)), .val (.int (Int32.ofNat f)), .val (.long (0 : Int64)), .second] [(.int (Int32.ofNat (f / 64))), (.ref t0)])) rfl rfl (hb hby d8_52) tg k) ?_
    show Go _ _ _ _ (T4.setTop (mkF m 53 #[.val (.ref o), .val (.int (Int32.ofNat f)), .val (.int (0 : Int32)), .val (.int (Int32.ofNat f)), .val (.long (0 : Int64)), .second] [(.long v)]))
    refine Go.step (X4.ldc2Long hx hown (mvT hZ (hw _ (List.mem_of_getElem? (i := 36) rfl))) (g := (mkF m 53 #[.val (.ref o), .val (.int (Int32.ofNat f)), .val (.int (0 : Int32)), .val (.int (Int32.ofNat f)), .val (.long (0 : Int64)), .second] [(.long v)])) rfl (hb hby d8_53)) ?_
    show Go _ _ _ _ (T4.setTop (mkF m 56 #[.val (.ref o), .val (.int (Int32.ofNat f)), .val (.int (0 : Int32)), .val (.int (Int32.ofNat f)), .val (.long (0 : Int64)), .second] [(.long (-1 : Int64)), (.long v)]))
    refine Go.step (fun _ k => XS.lxor X4.here hx rfl (hb hby d8_56) rfl k) ?_
    show Go _ _ _ _ (T4.setTop (mkF m 57 #[.val (.ref o), .val (.int (Int32.ofNat f)), .val (.int (0 : Int32)), .val (.int (Int32.ofNat f)), .val (.long (0 : Int64)), .second] [(.long (v ^^^ (-1 : Int64)))]))
    refine Go.step (X4.ldc2Long hx hown (mvT hZ (hw _ (List.mem_of_getElem? (i := 36) rfl))) (g := (mkF m 57 #[.val (.ref o), .val (.int (Int32.ofNat f)), .val (.int (0 : Int32)), .val (.int (Int32.ofNat f)), .val (.long (0 : Int64)), .second] [(.long (v ^^^ (-1 : Int64)))])) rfl (hb hby d8_57)) ?_
    show Go _ _ _ _ (T4.setTop (mkF m 60 #[.val (.ref o), .val (.int (Int32.ofNat f)), .val (.int (0 : Int32)), .val (.int (Int32.ofNat f)), .val (.long (0 : Int64)), .second] [(.long (-1 : Int64)), (.long (v ^^^ (-1 : Int64)))]))
    refine Go.step (fun _ k => XS.iloadN X4.here hx rfl (hb hby d8_60) rfl k) ?_
    show Go _ _ _ _ (T4.setTop (mkF m 61 #[.val (.ref o), .val (.int (Int32.ofNat f)), .val (.int (0 : Int32)), .val (.int (Int32.ofNat f)), .val (.long (0 : Int64)), .second] [(.int (Int32.ofNat f)), (.long (-1 : Int64)), (.long (v ^^^ (-1 : Int64)))]))
    refine Go.step (fun _ k => XS.lshl X4.here hx rfl (hb hby d8_61) rfl k) ?_
    show Go _ _ _ _ (T4.setTop (mkF m 62 #[.val (.ref o), .val (.int (Int32.ofNat f)), .val (.int (0 : Int32)), .val (.int (Int32.ofNat f)), .val (.long (0 : Int64)), .second] [(.long ((-1 : Int64) <<< ((Int32.ofNat f) &&& 0x3f).toInt64)), (.long (v ^^^ (-1 : Int64)))]))
    refine Go.step (fun _ k => XS.land X4.here hx rfl (hb hby d8_62) rfl k) ?_
    show Go _ _ _ _ (T4.setTop (mkF m 63 #[.val (.ref o), .val (.int (Int32.ofNat f)), .val (.int (0 : Int32)), .val (.int (Int32.ofNat f)), .val (.long (0 : Int64)), .second] [(.long ((v ^^^ (-1 : Int64)) &&& ((-1 : Int64) <<< ((Int32.ofNat f) &&& 0x3f).toInt64)))]))
    refine Go.step (fun _ k => XS.lstore X4.here hx rfl (hb hby d8_63) rfl (l' := #[.val (.ref o), .val (.int (Int32.ofNat f)), .val (.int (0 : Int32)), .val (.int (Int32.ofNat f)), .val (.long ((v ^^^ (-1 : Int64)) &&& ((-1 : Int64) <<< ((Int32.ofNat f) &&& 0x3f).toInt64))), .second]) rfl k) ?_
    show Go _ _ _ _ (T4.setTop (mkF m 65 #[.val (.ref o), .val (.int (Int32.ofNat f)), .val (.int (0 : Int32)), .val (.int (Int32.ofNat f)), .val (.long ((v ^^^ (-1 : Int64)) &&& ((-1 : Int64) <<< ((Int32.ofNat f) &&& 0x3f).toInt64))), .second] []))
    refine Go.step (fun _ k => XS.lload X4.here hx rfl (hb hby d8_65) rfl k) ?_
    show Go _ _ _ _ (T4.setTop (mkF m 67 #[.val (.ref o), .val (.int (Int32.ofNat f)), .val (.int (0 : Int32)), .val (.int (Int32.ofNat f)), .val (.long ((v ^^^ (-1 : Int64)) &&& ((-1 : Int64) <<< ((Int32.ofNat f) &&& 0x3f).toInt64))), .second] [(.long ((v ^^^ (-1 : Int64)) &&& ((-1 : Int64) <<< ((Int32.ofNat f) &&& 0x3f).toInt64)))]))
    refine Go.step (fun _ k => XS.lconst X4.here hx rfl (hb hby d8_67) k) ?_
    show Go _ _ _ _ (T4.setTop (mkF m 68 #[.val (.ref o), .val (.int (Int32.ofNat f)), .val (.int (0 : Int32)), .val (.int (Int32.ofNat f)), .val (.long ((v ^^^ (-1 : Int64)) &&& ((-1 : Int64) <<< ((Int32.ofNat f) &&& 0x3f).toInt64))), .second] [(.long (0 : Int64)), (.long ((v ^^^ (-1 : Int64)) &&& ((-1 : Int64) <<< ((Int32.ofNat f) &&& 0x3f).toInt64)))]))
    refine Go.step (fun _ k => XS.lcmp X4.here hx rfl (hb hby d8_68) rfl k) ?_
    show Go _ _ _ _ (T4.setTop (mkF m 69 #[.val (.ref o), .val (.int (Int32.ofNat f)), .val (.int (0 : Int32)), .val (.int (Int32.ofNat f)), .val (.long ((v ^^^ (-1 : Int64)) &&& ((-1 : Int64) <<< ((Int32.ofNat f) &&& 0x3f).toInt64))), .second] [(.int (lcmpW ((v ^^^ (-1 : Int64)) &&& ((-1 : Int64) <<< ((Int32.ofNat f) &&& 0x3f).toInt64)) (0 : Int64)))]))
    by_cases hc5 : ((v ^^^ (-1 : Int64)) &&& ((-1 : Int64) <<< ((Int32.ofNat f) &&& 0x3f).toInt64)) = (0 : Int64)
    · refine Go.step (fun _ k => XS.ifNo X4.here hx rfl (hb hby d8_69) rfl ((if0 _ _).trans (teq ((lw_eq _ _).mpr hc5)).2) k) ?_
      show Go _ _ _ _ (T4.setTop (mkF m 72 #[.val (.ref o), .val (.int (Int32.ofNat f)), .val (.int (0 : Int32)), .val (.int (Int32.ofNat f)), .val (.long ((v ^^^ (-1 : Int64)) &&& ((-1 : Int64) <<< ((Int32.ofNat f) &&& 0x3f).toInt64))), .second] []))
      refine Go.step (fun _ k => XS.iloadN X4.here hx rfl (hb hby d8_72) rfl k) ?_
      show Go _ _ _ _ (T4.setTop (mkF m 73 #[.val (.ref o), .val (.int (Int32.ofNat f)), .val (.int (0 : Int32)), .val (.int (Int32.ofNat f)), .val (.long ((v ^^^ (-1 : Int64)) &&& ((-1 : Int64) <<< ((Int32.ofNat f) &&& 0x3f).toInt64))), .second] [(.int (Int32.ofNat f))]))
      refine Go.step (fun _ k => XS.bipush X4.here hx rfl (hb hby d8_73) k) ?_
      show Go _ _ _ _ (T4.setTop (mkF m 75 #[.val (.ref o), .val (.int (Int32.ofNat f)), .val (.int (0 : Int32)), .val (.int (Int32.ofNat f)), .val (.long ((v ^^^ (-1 : Int64)) &&& ((-1 : Int64) <<< ((Int32.ofNat f) &&& 0x3f).toInt64))), .second] [(.int (6 : Int32)), (.int (Int32.ofNat f))]))
      refine Go.step (fun _ k => XS.iushr X4.here hx rfl (hb hby d8_75) rfl k) ?_
      rw [own_shr6 (by omega)]
      show Go _ _ _ _ (T4.setTop (mkF m 76 #[.val (.ref o), .val (.int (Int32.ofNat f)), .val (.int (0 : Int32)), .val (.int (Int32.ofNat f)), .val (.long ((v ^^^ (-1 : Int64)) &&& ((-1 : Int64) <<< ((Int32.ofNat f) &&& 0x3f).toInt64))), .second] [(.int (Int32.ofNat (f / 64)))]))
      refine Go.step (fun _ k => XS.iconst X4.here hx rfl (hb hby d8_76) k) ?_
      show Go _ _ _ _ (T4.setTop (mkF m 77 #[.val (.ref o), .val (.int (Int32.ofNat f)), .val (.int (0 : Int32)), .val (.int (Int32.ofNat f)), .val (.long ((v ^^^ (-1 : Int64)) &&& ((-1 : Int64) <<< ((Int32.ofNat f) &&& 0x3f).toInt64))), .second] [(.int (1 : Int32)), (.int (Int32.ofNat (f / 64)))]))
      refine Go.step (fun _ k => XS.iadd X4.here hx rfl (hb hby d8_77) rfl k) ?_
      rw [own_one]
      show Go _ _ _ _ (T4.setTop (mkF m 78 #[.val (.ref o), .val (.int (Int32.ofNat f)), .val (.int (0 : Int32)), .val (.int (Int32.ofNat f)), .val (.long ((v ^^^ (-1 : Int64)) &&& ((-1 : Int64) <<< ((Int32.ofNat f) &&& 0x3f).toInt64))), .second] [(.int (Int32.ofNat (f / 64 + 1)))]))
      refine Go.step (fun _ k => XS.istoreN X4.here hx rfl (hb hby d8_78) rfl (l' := #[.val (.ref o), .val (.int (Int32.ofNat f)), .val (.int (0 : Int32)), .val (.int (Int32.ofNat (f / 64 + 1))), .val (.long ((v ^^^ (-1 : Int64)) &&& ((-1 : Int64) <<< ((Int32.ofNat f) &&& 0x3f).toInt64))), .second]) rfl k) ?_
      show Go _ _ _ _ (T4.setTop (mkF m 79 #[.val (.ref o), .val (.int (Int32.ofNat f)), .val (.int (0 : Int32)), .val (.int (Int32.ofNat (f / 64 + 1))), .val (.long ((v ^^^ (-1 : Int64)) &&& ((-1 : Int64) <<< ((Int32.ofNat f) &&& 0x3f).toInt64))), .second] []))
      refine Go.step (fun _ k => XS.iinc X4.here hx rfl (hb hby d8_79) rfl (l' := #[.val (.ref o), .val (.int (Int32.ofNat f)), .val (.int (1 : Int32)), .val (.int (Int32.ofNat (f / 64 + 1))), .val (.long ((v ^^^ (-1 : Int64)) &&& ((-1 : Int64) <<< ((Int32.ofNat f) &&& 0x3f).toInt64))), .second]) rfl k) ?_
      show Go _ _ _ _ (T4.setTop (mkF m 82 #[.val (.ref o), .val (.int (Int32.ofNat f)), .val (.int (1 : Int32)), .val (.int (Int32.ofNat (f / 64 + 1))), .val (.long ((v ^^^ (-1 : Int64)) &&& ((-1 : Int64) <<< ((Int32.ofNat f) &&& 0x3f).toInt64))), .second] []))
      refine Go.step (fun _ k => XS.goto X4.here hx rfl (pc0 := 82) (pc' := 7) rfl (hb hby d8_82) (by decide) (by decide) k) ?_
      show Go _ _ _ _ (T4.setTop (mkF m 7 #[.val (.ref o), .val (.int (Int32.ofNat f)), .val (.int (1 : Int32)), .val (.int (Int32.ofNat (f / 64 + 1))), .val (.long ((v ^^^ (-1 : Int64)) &&& ((-1 : Int64) <<< ((Int32.ofNat f) &&& 0x3f).toInt64))), .second] []))
      refine Go.step (fun _ k => XS.lload X4.here hx rfl (hb hby d8_7) rfl k) ?_
      show Go _ _ _ _ (T4.setTop (mkF m 9 #[.val (.ref o), .val (.int (Int32.ofNat f)), .val (.int (1 : Int32)), .val (.int (Int32.ofNat (f / 64 + 1))), .val (.long ((v ^^^ (-1 : Int64)) &&& ((-1 : Int64) <<< ((Int32.ofNat f) &&& 0x3f).toInt64))), .second] [(.long ((v ^^^ (-1 : Int64)) &&& ((-1 : Int64) <<< ((Int32.ofNat f) &&& 0x3f).toInt64)))]))
      refine Go.step (fun _ k => XS.lconst X4.here hx rfl (hb hby d8_9) k) ?_
      show Go _ _ _ _ (T4.setTop (mkF m 10 #[.val (.ref o), .val (.int (Int32.ofNat f)), .val (.int (1 : Int32)), .val (.int (Int32.ofNat (f / 64 + 1))), .val (.long ((v ^^^ (-1 : Int64)) &&& ((-1 : Int64) <<< ((Int32.ofNat f) &&& 0x3f).toInt64))), .second] [(.long (0 : Int64)), (.long ((v ^^^ (-1 : Int64)) &&& ((-1 : Int64) <<< ((Int32.ofNat f) &&& 0x3f).toInt64)))]))
      refine Go.step (fun _ k => XS.lcmp X4.here hx rfl (hb hby d8_10) rfl k) ?_
      show Go _ _ _ _ (T4.setTop (mkF m 11 #[.val (.ref o), .val (.int (Int32.ofNat f)), .val (.int (1 : Int32)), .val (.int (Int32.ofNat (f / 64 + 1))), .val (.long ((v ^^^ (-1 : Int64)) &&& ((-1 : Int64) <<< ((Int32.ofNat f) &&& 0x3f).toInt64))), .second] [(.int (lcmpW ((v ^^^ (-1 : Int64)) &&& ((-1 : Int64) <<< ((Int32.ofNat f) &&& 0x3f).toInt64)) (0 : Int64)))]))
      refine Go.step (fun _ k => XS.ifNo X4.here hx rfl (hb hby d8_11) rfl ((if0 _ _).trans (teq ((lw_eq _ _).mpr hc5)).2) k) ?_
      show Go _ _ _ _ (T4.setTop (mkF m 14 #[.val (.ref o), .val (.int (Int32.ofNat f)), .val (.int (1 : Int32)), .val (.int (Int32.ofNat (f / 64 + 1))), .val (.long ((v ^^^ (-1 : Int64)) &&& ((-1 : Int64) <<< ((Int32.ofNat f) &&& 0x3f).toInt64))), .second] []))
      refine Go.step (fun _ k => XS.iloadN X4.here hx rfl (hb hby d8_14) rfl k) ?_
      show Go _ _ _ _ (T4.setTop (mkF m 15 #[.val (.ref o), .val (.int (Int32.ofNat f)), .val (.int (1 : Int32)), .val (.int (Int32.ofNat (f / 64 + 1))), .val (.long ((v ^^^ (-1 : Int64)) &&& ((-1 : Int64) <<< ((Int32.ofNat f) &&& 0x3f).toInt64))), .second] [(.int (1 : Int32))]))
      refine Go.step (fun _ k => XS.aloadN X4.here hx rfl (hb hby d8_15) rfl rfl k) ?_
      show Go _ _ _ _ (T4.setTop (mkF m 16 #[.val (.ref o), .val (.int (Int32.ofNat f)), .val (.int (1 : Int32)), .val (.int (Int32.ofNat (f / 64 + 1))), .val (.long ((v ^^^ (-1 : Int64)) &&& ((-1 : Int64) <<< ((Int32.ofNat f) &&& 0x3f).toInt64))), .second] [(.ref o), (.int (1 : Int32))]))
      obtain ⟨T6, X6, e6, st6⟩ := getF X4 hx hZ hown (host := "") (Or.inl (hw _ (List.mem_of_getElem? (i := 14) rfl))) Via.refl e4 FL (g := (mkF m 16 #[.val (.ref o), .val (.int (Int32.ofNat f)), .val (.int (1 : Int32)), .val (.int (Int32.ofNat (f / 64 + 1))), .val (.long ((v ^^^ (-1 : Int64)) &&& ((-1 : Int64) <<< ((Int32.ofNat f) &&& 0x3f).toInt64))), .second] [(.ref o), (.int (1 : Int32))])) rfl rfl (hb hby d8_16)
      refine Go.step st6 ?_
      show Go _ _ _ _ (T6.setTop (mkF m 19 #[.val (.ref o), .val (.int (Int32.ofNat f)), .val (.int (1 : Int32)), .val (.int (Int32.ofNat (f / 64 + 1))), .val (.long ((v ^^^ (-1 : Int64)) &&& ((-1 : Int64) <<< ((Int32.ofNat f) &&& 0x3f).toInt64))), .second] [(.ref tl), (.int (1 : Int32))]))
      refine Go.step (fun tg k => X6.arraylength hx (by rw [e6]; exact AT.1) (State.isArrayOf_alike hZ.alike AT.2.1) (g := (mkF m 19 #[.val (.ref o), .val (.int (Int32.ofNat f)), .val (.int (1 : Int32)), .val (.int (Int32.ofNat (f / 64 + 1))), .val (.long ((v ^^^ (-1 : Int64)) &&& ((-1 : Int64) <<< ((Int32.ofNat f) &&& 0x3f).toInt64))), .second] [(.ref tl), (.int (1 : Int32))])) rfl rfl (hb hby d8_19) tg k) ?_
      rw [hsz]
      show Go _ _ _ _ (T6.setTop (mkF m 20 #[.val (.ref o), .val (.int (Int32.ofNat f)), .val (.int (1 : Int32)), .val (.int (Int32.ofNat (f / 64 + 1))), .val (.long ((v ^^^ (-1 : Int64)) &&& ((-1 : Int64) <<< ((Int32.ofNat f) &&& 0x3f).toInt64))), .second] [(.int (Int32.ofNat 2)), (.int (1 : Int32))]))
      refine Go.step (fun _ k => XS.icmpNo X6.here hx rfl (hb hby d8_20) rfl (feq (show ¬ ((1 : Int32) = (Int32.ofNat 2)) from (by decide : ¬ ((1 : Int32) = (Int32.ofNat 2))))).1 k) ?_
      show Go _ _ _ _ (T6.setTop (mkF m 23 #[.val (.ref o), .val (.int (Int32.ofNat f)), .val (.int (1 : Int32)), .val (.int (Int32.ofNat (f / 64 + 1))), .val (.long ((v ^^^ (-1 : Int64)) &&& ((-1 : Int64) <<< ((Int32.ofNat f) &&& 0x3f).toInt64))), .second] []))
      refine Go.step (fun _ k => XS.iloadN X6.here hx rfl (hb hby d8_23) rfl k) ?_
      show Go _ _ _ _ (T6.setTop (mkF m 24 #[.val (.ref o), .val (.int (Int32.ofNat f)), .val (.int (1 : Int32)), .val (.int (Int32.ofNat (f / 64 + 1))), .val (.long ((v ^^^ (-1 : Int64)) &&& ((-1 : Int64) <<< ((Int32.ofNat f) &&& 0x3f).toInt64))), .second] [(.int (Int32.ofNat (f / 64 + 1)))]))
      refine Go.step (fun _ k => XS.bipush X6.here hx rfl (hb hby d8_24) k) ?_
      show Go _ _ _ _ (T6.setTop (mkF m 26 #[.val (.ref o), .val (.int (Int32.ofNat f)), .val (.int (1 : Int32)), .val (.int (Int32.ofNat (f / 64 + 1))), .val (.long ((v ^^^ (-1 : Int64)) &&& ((-1 : Int64) <<< ((Int32.ofNat f) &&& 0x3f).toInt64))), .second] [(.int (6 : Int32)), (.int (Int32.ofNat (f / 64 + 1)))]))
      refine Go.step (fun _ k => XS.iushr X6.here hx rfl (hb hby d8_26) rfl k) ?_
      rw [own_shr6 (by omega)]
      rw [show (f / 64 + 1) / 64 = 0 by omega]
      show Go _ _ _ _ (T6.setTop (mkF m 27 #[.val (.ref o), .val (.int (Int32.ofNat f)), .val (.int (1 : Int32)), .val (.int (Int32.ofNat (f / 64 + 1))), .val (.long ((v ^^^ (-1 : Int64)) &&& ((-1 : Int64) <<< ((Int32.ofNat f) &&& 0x3f).toInt64))), .second] [(.int (Int32.ofNat 0))]))
      refine Go.step (fun _ k => XS.aloadN X6.here hx rfl (hb hby d8_27) rfl rfl k) ?_
      show Go _ _ _ _ (T6.setTop (mkF m 28 #[.val (.ref o), .val (.int (Int32.ofNat f)), .val (.int (1 : Int32)), .val (.int (Int32.ofNat (f / 64 + 1))), .val (.long ((v ^^^ (-1 : Int64)) &&& ((-1 : Int64) <<< ((Int32.ofNat f) &&& 0x3f).toInt64))), .second] [(.ref o), (.int (Int32.ofNat 0))]))
      obtain ⟨T7, X7, e7, st7⟩ := getF X6 hx hZ hown (host := "") (Or.inl (hw _ (List.mem_of_getElem? (i := 14) rfl))) Via.refl e6 FL (g := (mkF m 28 #[.val (.ref o), .val (.int (Int32.ofNat f)), .val (.int (1 : Int32)), .val (.int (Int32.ofNat (f / 64 + 1))), .val (.long ((v ^^^ (-1 : Int64)) &&& ((-1 : Int64) <<< ((Int32.ofNat f) &&& 0x3f).toInt64))), .second] [(.ref o), (.int (Int32.ofNat 0))])) rfl rfl (hb hby d8_28)
      refine Go.step st7 ?_
      show Go _ _ _ _ (T7.setTop (mkF m 31 #[.val (.ref o), .val (.int (Int32.ofNat f)), .val (.int (1 : Int32)), .val (.int (Int32.ofNat (f / 64 + 1))), .val (.long ((v ^^^ (-1 : Int64)) &&& ((-1 : Int64) <<< ((Int32.ofNat f) &&& 0x3f).toInt64))), .second] [(.ref tl), (.int (Int32.ofNat 0))]))
      refine Go.step (fun _ k => XS.iloadN X7.here hx rfl (hb hby d8_31) rfl k) ?_
      show Go _ _ _ _ (T7.setTop (mkF m 32 #[.val (.ref o), .val (.int (Int32.ofNat f)), .val (.int (1 : Int32)), .val (.int (Int32.ofNat (f / 64 + 1))), .val (.long ((v ^^^ (-1 : Int64)) &&& ((-1 : Int64) <<< ((Int32.ofNat f) &&& 0x3f).toInt64))), .second] [(.int (1 : Int32)), (.ref tl), (.int (Int32.ofNat 0))]))
      refine Go.step (fun tg k => X7.aaload hx (j := (1 : Int32)) (v := (.ref t1)) (by rw [e7]; exact AT.1) (State.isArrayOf_alike hZ.alike AT.2.1) rfl AT.2.2 (own_in (i := 1) (by omega) (by omega)) hc1 (g := (mkF m 32 #[.val (.ref o), .val (.int (Int32.ofNat f)), .val (.int (1 : Int32)), .val (.int (Int32.ofNat (f / 64 + 1))), .val (.long ((v ^^^ (-1 : Int64)) &&& ((-1 : Int64) <<< ((Int32.ofNat f) &&& 0x3f).toInt64))), .second] [(.int (1 : Int32)), (.ref tl), (.int (Int32.ofNat 0))])) rfl rfl (hb hby d8_32) tg k) ?_
      show Go _ _ _ _ (T7.setTop (mkF m 33 #[.val (.ref o), .val (.int (Int32.ofNat f)), .val (.int (1 : Int32)), .val (.int (Int32.ofNat (f / 64 + 1))), .val (.long ((v ^^^ (-1 : Int64)) &&& ((-1 : Int64) <<< ((Int32.ofNat f) &&& 0x3f).toInt64))), .second] [(.ref t1), (.int (Int32.ofNat 0))]))
      refine Go.step (fun tg k => X7.arraylength hx (by rw [e7]; exact A1.1) (State.isArrayOf_alike hZ.alike A1.2.1) (g := (mkF m 33 #[.val (.ref o), .val (.int (Int32.ofNat f)), .val (.int (1 : Int32)), .val (.int (Int32.ofNat (f / 64 + 1))), .val (.long ((v ^^^ (-1 : Int64)) &&& ((-1 : Int64) <<< ((Int32.ofNat f) &&& 0x3f).toInt64))), .second] [(.ref t1), (.int (Int32.ofNat 0))])) rfl rfl (hb hby d8_33) tg k) ?_
      rw [S1]
      show Go _ _ _ _ (T7.setTop (mkF m 34 #[.val (.ref o), .val (.int (Int32.ofNat f)), .val (.int (1 : Int32)), .val (.int (Int32.ofNat (f / 64 + 1))), .val (.long ((v ^^^ (-1 : Int64)) &&& ((-1 : Int64) <<< ((Int32.ofNat f) &&& 0x3f).toInt64))), .second] [(.int (Int32.ofNat 1)), (.int (Int32.ofNat 0))]))
      refine Go.step (fun _ k => XS.icmpYes X7.here hx rfl (pc0 := 34) (pc' := 42) rfl (hb hby d8_34) rfl (tlt (show ((Int32.ofNat 0) < (Int32.ofNat 1)) from (by decide : (Int32.ofNat 0) < (Int32.ofNat 1)))).1 (by decide) (by decide) k) ?_
      show Go _ _ _ _ (T7.setTop (mkF m 42 #[.val (.ref o), .val (.int (Int32.ofNat f)), .val (.int (1 : Int32)), .val (.int (Int32.ofNat (f / 64 + 1))), .val (.long ((v ^^^ (-1 : Int64)) &&& ((-1 : Int64) <<< ((Int32.ofNat f) &&& 0x3f).toInt64))), .second] []))
      refine Go.step (fun _ k => XS.aloadN X7.here hx rfl (hb hby d8_42) rfl rfl k) ?_
      show Go _ _ _ _ (T7.setTop (mkF m 43 #[.val (.ref o), .val (.int (Int32.ofNat f)), .val (.int (1 : Int32)), .val (.int (Int32.ofNat (f / 64 + 1))), .val (.long ((v ^^^ (-1 : Int64)) &&& ((-1 : Int64) <<< ((Int32.ofNat f) &&& 0x3f).toInt64))), .second] [(.ref o)]))
      obtain ⟨T8, X8, e8, st8⟩ := getF X7 hx hZ hown (host := "") (Or.inl (hw _ (List.mem_of_getElem? (i := 14) rfl))) Via.refl e7 FL (g := (mkF m 43 #[.val (.ref o), .val (.int (Int32.ofNat f)), .val (.int (1 : Int32)), .val (.int (Int32.ofNat (f / 64 + 1))), .val (.long ((v ^^^ (-1 : Int64)) &&& ((-1 : Int64) <<< ((Int32.ofNat f) &&& 0x3f).toInt64))), .second] [(.ref o)])) rfl rfl (hb hby d8_43)
      refine Go.step st8 ?_
      show Go _ _ _ _ (T8.setTop (mkF m 46 #[.val (.ref o), .val (.int (Int32.ofNat f)), .val (.int (1 : Int32)), .val (.int (Int32.ofNat (f / 64 + 1))), .val (.long ((v ^^^ (-1 : Int64)) &&& ((-1 : Int64) <<< ((Int32.ofNat f) &&& 0x3f).toInt64))), .second] [(.ref tl)]))
      refine Go.step (fun _ k => XS.iloadN X8.here hx rfl (hb hby d8_46) rfl k) ?_
      show Go _ _ _ _ (T8.setTop (mkF m 47 #[.val (.ref o), .val (.int (Int32.ofNat f)), .val (.int (1 : Int32)), .val (.int (Int32.ofNat (f / 64 + 1))), .val (.long ((v ^^^ (-1 : Int64)) &&& ((-1 : Int64) <<< ((Int32.ofNat f) &&& 0x3f).toInt64))), .second] [(.int (1 : Int32)), (.ref tl)]))
      refine Go.step (fun tg k => X8.aaload hx (j := (1 : Int32)) (v := (.ref t1)) (by rw [e8]; exact AT.1) (State.isArrayOf_alike hZ.alike AT.2.1) rfl AT.2.2 (own_in (i := 1) (by omega) (by omega)) hc1 (g := (mkF m 47 #[.val (.ref o), .val (.int (Int32.ofNat f)), .val (.int (1 : Int32)), .val (.int (Int32.ofNat (f / 64 + 1))), .val (.long ((v ^^^ (-1 : Int64)) &&& ((-1 : Int64) <<< ((Int32.ofNat f) &&& 0x3f).toInt64))), .second] [(.int (1 : Int32)), (.ref tl)])) rfl rfl (hb hby d8_47) tg k) ?_
      show Go _ _ _ _ (T8.setTop (mkF m 48 #[.val (.ref o), .val (.int (Int32.ofNat f)), .val (.int (1 : Int32)), .val (.int (Int32.ofNat (f / 64 + 1))), .val (.long ((v ^^^ (-1 : Int64)) &&& ((-1 : Int64) <<< ((Int32.ofNat f) &&& 0x3f).toInt64))), .second] [(.ref t1)]))
      refine Go.step (fun _ k => XS.iloadN X8.here hx rfl (hb hby d8_48) rfl k) ?_
      show Go _ _ _ _ (T8.setTop (mkF m 49 #[.val (.ref o), .val (.int (Int32.ofNat f)), .val (.int (1 : Int32)), .val (.int (Int32.ofNat (f / 64 + 1))), .val (.long ((v ^^^ (-1 : Int64)) &&& ((-1 : Int64) <<< ((Int32.ofNat f) &&& 0x3f).toInt64))), .second] [(.int (Int32.ofNat (f / 64 + 1))), (.ref t1)]))
      refine Go.step (fun _ k => XS.bipush X8.here hx rfl (hb hby d8_49) k) ?_
      show Go _ _ _ _ (T8.setTop (mkF m 51 #[.val (.ref o), .val (.int (Int32.ofNat f)), .val (.int (1 : Int32)), .val (.int (Int32.ofNat (f / 64 + 1))), .val (.long ((v ^^^ (-1 : Int64)) &&& ((-1 : Int64) <<< ((Int32.ofNat f) &&& 0x3f).toInt64))), .second] [(.int (6 : Int32)), (.int (Int32.ofNat (f / 64 + 1))), (.ref t1)]))
      refine Go.step (fun _ k => XS.iushr X8.here hx rfl (hb hby d8_51) rfl k) ?_
      rw [own_shr6 (by omega)]
      rw [show (f / 64 + 1) / 64 = 0 by omega]
      show Go _ _ _ _ (T8.setTop (mkF m 52 #[.val (.ref o), .val (.int (Int32.ofNat f)), .val (.int (1 : Int32)), .val (.int (Int32.ofNat (f / 64 + 1))), .val (.long ((v ^^^ (-1 : Int64)) &&& ((-1 : Int64) <<< ((Int32.ofNat f) &&& 0x3f).toInt64))), .second] [(.int (Int32.ofNat 0)), (.ref t1)]))
      refine Go.step (fun tg k => X8.laload hx (j := (Int32.ofNat 0)) (v := (.long v1)) (by rw [e8]; exact A1.1) (State.isArrayOf_alike hZ.alike A1.2.1) A1.2.2 (own_in (i := 0) (by omega) (by omega)) hv1 (g := (mkF m 52 #[.val (.ref o), .val (.int (Int32.ofNat f)), .val (.int (1 : Int32)), .val (.int (Int32.ofNat (f / 64 + 1))), .val (.long ((v ^^^ (-1 : Int64)) &&& ((-1 : Int64) <<< ((Int32.ofNat f) &&& 0x3f).toInt64))), .second] [(.int (Int32.ofNat 0)), (.ref t1)])) rfl rfl (hb hby d8_52) tg k) ?_
      show Go _ _ _ _ (T8.setTop (mkF m 53 #[.val (.ref o), .val (.int (Int32.ofNat f)), .val (.int (1 : Int32)), .val (.int (Int32.ofNat (f / 64 + 1))), .val (.long ((v ^^^ (-1 : Int64)) &&& ((-1 : Int64) <<< ((Int32.ofNat f) &&& 0x3f).toInt64))), .second] [(.long v1)]))
      refine Go.step (X8.ldc2Long hx hown (mvT hZ (hw _ (List.mem_of_getElem? (i := 36) rfl))) (g := (mkF m 53 #[.val (.ref o), .val (.int (Int32.ofNat f)), .val (.int (1 : Int32)), .val (.int (Int32.ofNat (f / 64 + 1))), .val (.long ((v ^^^ (-1 : Int64)) &&& ((-1 : Int64) <<< ((Int32.ofNat f) &&& 0x3f).toInt64))), .second] [(.long v1)])) rfl (hb hby d8_53)) ?_
      show Go _ _ _ _ (T8.setTop (mkF m 56 #[.val (.ref o), .val (.int (Int32.ofNat f)), .val (.int (1 : Int32)), .val (.int (Int32.ofNat (f / 64 + 1))), .val (.long ((v ^^^ (-1 : Int64)) &&& ((-1 : Int64) <<< ((Int32.ofNat f) &&& 0x3f).toInt64))), .second] [(.long (-1 : Int64)), (.long v1)]))
      refine Go.step (fun _ k => XS.lxor X8.here hx rfl (hb hby d8_56) rfl k) ?_
      show Go _ _ _ _ (T8.setTop (mkF m 57 #[.val (.ref o), .val (.int (Int32.ofNat f)), .val (.int (1 : Int32)), .val (.int (Int32.ofNat (f / 64 + 1))), .val (.long ((v ^^^ (-1 : Int64)) &&& ((-1 : Int64) <<< ((Int32.ofNat f) &&& 0x3f).toInt64))), .second] [(.long (v1 ^^^ (-1 : Int64)))]))
      refine Go.step (X8.ldc2Long hx hown (mvT hZ (hw _ (List.mem_of_getElem? (i := 36) rfl))) (g := (mkF m 57 #[.val (.ref o), .val (.int (Int32.ofNat f)), .val (.int (1 : Int32)), .val (.int (Int32.ofNat (f / 64 + 1))), .val (.long ((v ^^^ (-1 : Int64)) &&& ((-1 : Int64) <<< ((Int32.ofNat f) &&& 0x3f).toInt64))), .second] [(.long (v1 ^^^ (-1 : Int64)))])) rfl (hb hby d8_57)) ?_
      show Go _ _ _ _ (T8.setTop (mkF m 60 #[.val (.ref o), .val (.int (Int32.ofNat f)), .val (.int (1 : Int32)), .val (.int (Int32.ofNat (f / 64 + 1))), .val (.long ((v ^^^ (-1 : Int64)) &&& ((-1 : Int64) <<< ((Int32.ofNat f) &&& 0x3f).toInt64))), .second] [(.long (-1 : Int64)), (.long (v1 ^^^ (-1 : Int64)))]))
      refine Go.step (fun _ k => XS.iloadN X8.here hx rfl (hb hby d8_60) rfl k) ?_
      show Go _ _ _ _ (T8.setTop (mkF m 61 #[.val (.ref o), .val (.int (Int32.ofNat f)), .val (.int (1 : Int32)), .val (.int (Int32.ofNat (f / 64 + 1))), .val (.long ((v ^^^ (-1 : Int64)) &&& ((-1 : Int64) <<< ((Int32.ofNat f) &&& 0x3f).toInt64))), .second] [(.int (Int32.ofNat (f / 64 + 1))), (.long (-1 : Int64)), (.long (v1 ^^^ (-1 : Int64)))]))
      refine Go.step (fun _ k => XS.lshl X8.here hx rfl (hb hby d8_61) rfl k) ?_
      show Go _ _ _ _ (T8.setTop (mkF m 62 #[.val (.ref o), .val (.int (Int32.ofNat f)), .val (.int (1 : Int32)), .val (.int (Int32.ofNat (f / 64 + 1))), .val (.long ((v ^^^ (-1 : Int64)) &&& ((-1 : Int64) <<< ((Int32.ofNat f) &&& 0x3f).toInt64))), .second] [(.long ((-1 : Int64) <<< ((Int32.ofNat (f / 64 + 1)) &&& 0x3f).toInt64)), (.long (v1 ^^^ (-1 : Int64)))]))
      refine Go.step (fun _ k => XS.land X8.here hx rfl (hb hby d8_62) rfl k) ?_
      show Go _ _ _ _ (T8.setTop (mkF m 63 #[.val (.ref o), .val (.int (Int32.ofNat f)), .val (.int (1 : Int32)), .val (.int (Int32.ofNat (f / 64 + 1))), .val (.long ((v ^^^ (-1 : Int64)) &&& ((-1 : Int64) <<< ((Int32.ofNat f) &&& 0x3f).toInt64))), .second] [(.long ((v1 ^^^ (-1 : Int64)) &&& ((-1 : Int64) <<< ((Int32.ofNat (f / 64 + 1)) &&& 0x3f).toInt64)))]))
      refine Go.step (fun _ k => XS.lstore X8.here hx rfl (hb hby d8_63) rfl (l' := #[.val (.ref o), .val (.int (Int32.ofNat f)), .val (.int (1 : Int32)), .val (.int (Int32.ofNat (f / 64 + 1))), .val (.long ((v1 ^^^ (-1 : Int64)) &&& ((-1 : Int64) <<< ((Int32.ofNat (f / 64 + 1)) &&& 0x3f).toInt64))), .second]) rfl k) ?_
      show Go _ _ _ _ (T8.setTop (mkF m 65 #[.val (.ref o), .val (.int (Int32.ofNat f)), .val (.int (1 : Int32)), .val (.int (Int32.ofNat (f / 64 + 1))), .val (.long ((v1 ^^^ (-1 : Int64)) &&& ((-1 : Int64) <<< ((Int32.ofNat (f / 64 + 1)) &&& 0x3f).toInt64))), .second] []))
      refine Go.step (fun _ k => XS.lload X8.here hx rfl (hb hby d8_65) rfl k) ?_
      show Go _ _ _ _ (T8.setTop (mkF m 67 #[.val (.ref o), .val (.int (Int32.ofNat f)), .val (.int (1 : Int32)), .val (.int (Int32.ofNat (f / 64 + 1))), .val (.long ((v1 ^^^ (-1 : Int64)) &&& ((-1 : Int64) <<< ((Int32.ofNat (f / 64 + 1)) &&& 0x3f).toInt64))), .second] [(.long ((v1 ^^^ (-1 : Int64)) &&& ((-1 : Int64) <<< ((Int32.ofNat (f / 64 + 1)) &&& 0x3f).toInt64)))]))
      refine Go.step (fun _ k => XS.lconst X8.here hx rfl (hb hby d8_67) k) ?_
      show Go _ _ _ _ (T8.setTop (mkF m 68 #[.val (.ref o), .val (.int (Int32.ofNat f)), .val (.int (1 : Int32)), .val (.int (Int32.ofNat (f / 64 + 1))), .val (.long ((v1 ^^^ (-1 : Int64)) &&& ((-1 : Int64) <<< ((Int32.ofNat (f / 64 + 1)) &&& 0x3f).toInt64))), .second] [(.long (0 : Int64)), (.long ((v1 ^^^ (-1 : Int64)) &&& ((-1 : Int64) <<< ((Int32.ofNat (f / 64 + 1)) &&& 0x3f).toInt64)))]))
      refine Go.step (fun _ k => XS.lcmp X8.here hx rfl (hb hby d8_68) rfl k) ?_
      show Go _ _ _ _ (T8.setTop (mkF m 69 #[.val (.ref o), .val (.int (Int32.ofNat f)), .val (.int (1 : Int32)), .val (.int (Int32.ofNat (f / 64 + 1))), .val (.long ((v1 ^^^ (-1 : Int64)) &&& ((-1 : Int64) <<< ((Int32.ofNat (f / 64 + 1)) &&& 0x3f).toInt64))), .second] [(.int (lcmpW ((v1 ^^^ (-1 : Int64)) &&& ((-1 : Int64) <<< ((Int32.ofNat (f / 64 + 1)) &&& 0x3f).toInt64)) (0 : Int64)))]))
      by_cases hc9 : ((v1 ^^^ (-1 : Int64)) &&& ((-1 : Int64) <<< ((Int32.ofNat (f / 64 + 1)) &&& 0x3f).toInt64)) = (0 : Int64)
      · refine Go.step (fun _ k => XS.ifNo X8.here hx rfl (hb hby d8_69) rfl ((if0 _ _).trans (teq ((lw_eq _ _).mpr hc9)).2) k) ?_
        show Go _ _ _ _ (T8.setTop (mkF m 72 #[.val (.ref o), .val (.int (Int32.ofNat f)), .val (.int (1 : Int32)), .val (.int (Int32.ofNat (f / 64 + 1))), .val (.long ((v1 ^^^ (-1 : Int64)) &&& ((-1 : Int64) <<< ((Int32.ofNat (f / 64 + 1)) &&& 0x3f).toInt64))), .second] []))
        refine Go.step (fun _ k => XS.iloadN X8.here hx rfl (hb hby d8_72) rfl k) ?_
        show Go _ _ _ _ (T8.setTop (mkF m 73 #[.val (.ref o), .val (.int (Int32.ofNat f)), .val (.int (1 : Int32)), .val (.int (Int32.ofNat (f / 64 + 1))), .val (.long ((v1 ^^^ (-1 : Int64)) &&& ((-1 : Int64) <<< ((Int32.ofNat (f / 64 + 1)) &&& 0x3f).toInt64))), .second] [(.int (Int32.ofNat (f / 64 + 1)))]))
        refine Go.step (fun _ k => XS.bipush X8.here hx rfl (hb hby d8_73) k) ?_
        show Go _ _ _ _ (T8.setTop (mkF m 75 #[.val (.ref o), .val (.int (Int32.ofNat f)), .val (.int (1 : Int32)), .val (.int (Int32.ofNat (f / 64 + 1))), .val (.long ((v1 ^^^ (-1 : Int64)) &&& ((-1 : Int64) <<< ((Int32.ofNat (f / 64 + 1)) &&& 0x3f).toInt64))), .second] [(.int (6 : Int32)), (.int (Int32.ofNat (f / 64 + 1)))]))
        refine Go.step (fun _ k => XS.iushr X8.here hx rfl (hb hby d8_75) rfl k) ?_
        rw [own_shr6 (by omega)]
        rw [show (f / 64 + 1) / 64 = 0 by omega]
        show Go _ _ _ _ (T8.setTop (mkF m 76 #[.val (.ref o), .val (.int (Int32.ofNat f)), .val (.int (1 : Int32)), .val (.int (Int32.ofNat (f / 64 + 1))), .val (.long ((v1 ^^^ (-1 : Int64)) &&& ((-1 : Int64) <<< ((Int32.ofNat (f / 64 + 1)) &&& 0x3f).toInt64))), .second] [(.int (Int32.ofNat 0))]))
        refine Go.step (fun _ k => XS.iconst X8.here hx rfl (hb hby d8_76) k) ?_
        show Go _ _ _ _ (T8.setTop (mkF m 77 #[.val (.ref o), .val (.int (Int32.ofNat f)), .val (.int (1 : Int32)), .val (.int (Int32.ofNat (f / 64 + 1))), .val (.long ((v1 ^^^ (-1 : Int64)) &&& ((-1 : Int64) <<< ((Int32.ofNat (f / 64 + 1)) &&& 0x3f).toInt64))), .second] [(.int (1 : Int32)), (.int (Int32.ofNat 0))]))
        refine Go.step (fun _ k => XS.iadd X8.here hx rfl (hb hby d8_77) rfl k) ?_
        rw [own_one]
        show Go _ _ _ _ (T8.setTop (mkF m 78 #[.val (.ref o), .val (.int (Int32.ofNat f)), .val (.int (1 : Int32)), .val (.int (Int32.ofNat (f / 64 + 1))), .val (.long ((v1 ^^^ (-1 : Int64)) &&& ((-1 : Int64) <<< ((Int32.ofNat (f / 64 + 1)) &&& 0x3f).toInt64))), .second] [(.int (Int32.ofNat (0 + 1)))]))
        refine Go.step (fun _ k => XS.istoreN X8.here hx rfl (hb hby d8_78) rfl (l' := #[.val (.ref o), .val (.int (Int32.ofNat f)), .val (.int (1 : Int32)), .val (.int (Int32.ofNat (0 + 1))), .val (.long ((v1 ^^^ (-1 : Int64)) &&& ((-1 : Int64) <<< ((Int32.ofNat (f / 64 + 1)) &&& 0x3f).toInt64))), .second]) rfl k) ?_
        show Go _ _ _ _ (T8.setTop (mkF m 79 #[.val (.ref o), .val (.int (Int32.ofNat f)), .val (.int (1 : Int32)), .val (.int (Int32.ofNat (0 + 1))), .val (.long ((v1 ^^^ (-1 : Int64)) &&& ((-1 : Int64) <<< ((Int32.ofNat (f / 64 + 1)) &&& 0x3f).toInt64))), .second] []))
        refine Go.step (fun _ k => XS.iinc X8.here hx rfl (hb hby d8_79) rfl (l' := #[.val (.ref o), .val (.int (Int32.ofNat f)), .val (.int (2 : Int32)), .val (.int (Int32.ofNat (0 + 1))), .val (.long ((v1 ^^^ (-1 : Int64)) &&& ((-1 : Int64) <<< ((Int32.ofNat (f / 64 + 1)) &&& 0x3f).toInt64))), .second]) rfl k) ?_
        show Go _ _ _ _ (T8.setTop (mkF m 82 #[.val (.ref o), .val (.int (Int32.ofNat f)), .val (.int (2 : Int32)), .val (.int (Int32.ofNat (0 + 1))), .val (.long ((v1 ^^^ (-1 : Int64)) &&& ((-1 : Int64) <<< ((Int32.ofNat (f / 64 + 1)) &&& 0x3f).toInt64))), .second] []))
        refine Go.step (fun _ k => XS.goto X8.here hx rfl (pc0 := 82) (pc' := 7) rfl (hb hby d8_82) (by decide) (by decide) k) ?_
        show Go _ _ _ _ (T8.setTop (mkF m 7 #[.val (.ref o), .val (.int (Int32.ofNat f)), .val (.int (2 : Int32)), .val (.int (Int32.ofNat (0 + 1))), .val (.long ((v1 ^^^ (-1 : Int64)) &&& ((-1 : Int64) <<< ((Int32.ofNat (f / 64 + 1)) &&& 0x3f).toInt64))), .second] []))
        refine Go.step (fun _ k => XS.lload X8.here hx rfl (hb hby d8_7) rfl k) ?_
        show Go _ _ _ _ (T8.setTop (mkF m 9 #[.val (.ref o), .val (.int (Int32.ofNat f)), .val (.int (2 : Int32)), .val (.int (Int32.ofNat (0 + 1))), .val (.long ((v1 ^^^ (-1 : Int64)) &&& ((-1 : Int64) <<< ((Int32.ofNat (f / 64 + 1)) &&& 0x3f).toInt64))), .second] [(.long ((v1 ^^^ (-1 : Int64)) &&& ((-1 : Int64) <<< ((Int32.ofNat (f / 64 + 1)) &&& 0x3f).toInt64)))]))
        refine Go.step (fun _ k => XS.lconst X8.here hx rfl (hb hby d8_9) k) ?_
        show Go _ _ _ _ (T8.setTop (mkF m 10 #[.val (.ref o), .val (.int (Int32.ofNat f)), .val (.int (2 : Int32)), .val (.int (Int32.ofNat (0 + 1))), .val (.long ((v1 ^^^ (-1 : Int64)) &&& ((-1 : Int64) <<< ((Int32.ofNat (f / 64 + 1)) &&& 0x3f).toInt64))), .second] [(.long (0 : Int64)), (.long ((v1 ^^^ (-1 : Int64)) &&& ((-1 : Int64) <<< ((Int32.ofNat (f / 64 + 1)) &&& 0x3f).toInt64)))]))
        refine Go.step (fun _ k => XS.lcmp X8.here hx rfl (hb hby d8_10) rfl k) ?_
        show Go _ _ _ _ (T8.setTop (mkF m 11 #[.val (.ref o), .val (.int (Int32.ofNat f)), .val (.int (2 : Int32)), .val (.int (Int32.ofNat (0 + 1))), .val (.long ((v1 ^^^ (-1 : Int64)) &&& ((-1 : Int64) <<< ((Int32.ofNat (f / 64 + 1)) &&& 0x3f).toInt64))), .second] [(.int (lcmpW ((v1 ^^^ (-1 : Int64)) &&& ((-1 : Int64) <<< ((Int32.ofNat (f / 64 + 1)) &&& 0x3f).toInt64)) (0 : Int64)))]))
        refine Go.step (fun _ k => XS.ifNo X8.here hx rfl (hb hby d8_11) rfl ((if0 _ _).trans (teq ((lw_eq _ _).mpr hc9)).2) k) ?_
        show Go _ _ _ _ (T8.setTop (mkF m 14 #[.val (.ref o), .val (.int (Int32.ofNat f)), .val (.int (2 : Int32)), .val (.int (Int32.ofNat (0 + 1))), .val (.long ((v1 ^^^ (-1 : Int64)) &&& ((-1 : Int64) <<< ((Int32.ofNat (f / 64 + 1)) &&& 0x3f).toInt64))), .second] []))
        refine Go.step (fun _ k => XS.iloadN X8.here hx rfl (hb hby d8_14) rfl k) ?_
        show Go _ _ _ _ (T8.setTop (mkF m 15 #[.val (.ref o), .val (.int (Int32.ofNat f)), .val (.int (2 : Int32)), .val (.int (Int32.ofNat (0 + 1))), .val (.long ((v1 ^^^ (-1 : Int64)) &&& ((-1 : Int64) <<< ((Int32.ofNat (f / 64 + 1)) &&& 0x3f).toInt64))), .second] [(.int (2 : Int32))]))
        refine Go.step (fun _ k => XS.aloadN X8.here hx rfl (hb hby d8_15) rfl rfl k) ?_
        show Go _ _ _ _ (T8.setTop (mkF m 16 #[.val (.ref o), .val (.int (Int32.ofNat f)), .val (.int (2 : Int32)), .val (.int (Int32.ofNat (0 + 1))), .val (.long ((v1 ^^^ (-1 : Int64)) &&& ((-1 : Int64) <<< ((Int32.ofNat (f / 64 + 1)) &&& 0x3f).toInt64))), .second] [(.ref o), (.int (2 : Int32))]))
        obtain ⟨T10, X10, e10, st10⟩ := getF X8 hx hZ hown (host := "") (Or.inl (hw _ (List.mem_of_getElem? (i := 14) rfl))) Via.refl e8 FL (g := (mkF m 16 #[.val (.ref o), .val (.int (Int32.ofNat f)), .val (.int (2 : Int32)), .val (.int (Int32.ofNat (0 + 1))), .val (.long ((v1 ^^^ (-1 : Int64)) &&& ((-1 : Int64) <<< ((Int32.ofNat (f / 64 + 1)) &&& 0x3f).toInt64))), .second] [(.ref o), (.int (2 : Int32))])) rfl rfl (hb hby d8_16)
        refine Go.step st10 ?_
        show Go _ _ _ _ (T10.setTop (mkF m 19 #[.val (.ref o), .val (.int (Int32.ofNat f)), .val (.int (2 : Int32)), .val (.int (Int32.ofNat (0 + 1))), .val (.long ((v1 ^^^ (-1 : Int64)) &&& ((-1 : Int64) <<< ((Int32.ofNat (f / 64 + 1)) &&& 0x3f).toInt64))), .second] [(.ref tl), (.int (2 : Int32))]))
        refine Go.step (fun tg k => X10.arraylength hx (by rw [e10]; exact AT.1) (State.isArrayOf_alike hZ.alike AT.2.1) (g := (mkF m 19 #[.val (.ref o), .val (.int (Int32.ofNat f)), .val (.int (2 : Int32)), .val (.int (Int32.ofNat (0 + 1))), .val (.long ((v1 ^^^ (-1 : Int64)) &&& ((-1 : Int64) <<< ((Int32.ofNat (f / 64 + 1)) &&& 0x3f).toInt64))), .second] [(.ref tl), (.int (2 : Int32))])) rfl rfl (hb hby d8_19) tg k) ?_
        rw [hsz]
        show Go _ _ _ _ (T10.setTop (mkF m 20 #[.val (.ref o), .val (.int (Int32.ofNat f)), .val (.int (2 : Int32)), .val (.int (Int32.ofNat (0 + 1))), .val (.long ((v1 ^^^ (-1 : Int64)) &&& ((-1 : Int64) <<< ((Int32.ofNat (f / 64 + 1)) &&& 0x3f).toInt64))), .second] [(.int (Int32.ofNat 2)), (.int (2 : Int32))]))
        refine Go.step (fun _ k => XS.icmpYes X10.here hx rfl (pc0 := 20) (pc' := 37) rfl (hb hby d8_20) rfl (teq (show ((2 : Int32) = (Int32.ofNat 2)) from (by decide : ((2 : Int32) = (Int32.ofNat 2))))).1 (by decide) (by decide) k) ?_
        show Go _ _ _ _ (T10.setTop (mkF m 37 #[.val (.ref o), .val (.int (Int32.ofNat f)), .val (.int (2 : Int32)), .val (.int (Int32.ofNat (0 + 1))), .val (.long ((v1 ^^^ (-1 : Int64)) &&& ((-1 : Int64) <<< ((Int32.ofNat (f / 64 + 1)) &&& 0x3f).toInt64))), .second] []))
        refine Go.step (fun _ k => XS.aloadN X10.here hx rfl (hb hby d8_37) rfl rfl k) ?_
        show Go _ _ _ _ (T10.setTop (mkF m 38 #[.val (.ref o), .val (.int (Int32.ofNat f)), .val (.int (2 : Int32)), .val (.int (Int32.ofNat (0 + 1))), .val (.long ((v1 ^^^ (-1 : Int64)) &&& ((-1 : Int64) <<< ((Int32.ofNat (f / 64 + 1)) &&& 0x3f).toInt64))), .second] [(.ref o)]))
        obtain ⟨T11, X11, e11, st11⟩ := getF X10 hx hZ hown (host := "") (Or.inl (hw _ (List.mem_of_getElem? (i := 10) rfl))) Via.refl e10 FC (g := (mkF m 38 #[.val (.ref o), .val (.int (Int32.ofNat f)), .val (.int (2 : Int32)), .val (.int (Int32.ofNat (0 + 1))), .val (.long ((v1 ^^^ (-1 : Int64)) &&& ((-1 : Int64) <<< ((Int32.ofNat (f / 64 + 1)) &&& 0x3f).toInt64))), .second] [(.ref o)])) rfl rfl (hb hby d8_38)
        refine Go.step st11 ?_
        show Go _ _ _ _ (T11.setTop (mkF m 41 #[.val (.ref o), .val (.int (Int32.ofNat f)), .val (.int (2 : Int32)), .val (.int (Int32.ofNat (0 + 1))), .val (.long ((v1 ^^^ (-1 : Int64)) &&& ((-1 : Int64) <<< ((Int32.ofNat (f / 64 + 1)) &&& 0x3f).toInt64))), .second] [(.int (Int32.ofNat (64 * N)))]))
        have g64 := (own_lt (by omega) (by omega)).mp hc3
        have r0 := hWd.room0 (by omega) hc5
        have r1 := Wd.room0 (n := (f / 64 + 1)) (by omega) (by rw [show (f / 64 + 1) / 64 = 0 by omega]; exact hWd1) hc9 (f / 64 + 1) (Nat.le_refl _) (by omega)
        have r2 : N ≤ f / 64 + 1 := of_decide_eq_true r1
        exact leafI X11 hx hret hlk (hb hby d8_41) ⟨⟨64 * N, rfl, Or.inr ⟨by omega, by omega, Nat.le_refl _, fun q => absurd q (Nat.lt_irrefl _), fun y h1 h2 => r0 y h1 (by omega)⟩⟩, e11, rfl⟩ (by decide) (by decide)
      · refine Go.step (fun _ k => XS.ifYes X8.here hx rfl (pc0 := 69) (pc' := 7) rfl (hb hby d8_69) rfl ((if0 _ _).trans (feq (fun q => hc9 ((lw_eq _ _).mp q))).2) (by decide) (by decide) k) ?_
        show Go _ _ _ _ (T8.setTop (mkF m 7 #[.val (.ref o), .val (.int (Int32.ofNat f)), .val (.int (1 : Int32)), .val (.int (Int32.ofNat (f / 64 + 1))), .val (.long ((v1 ^^^ (-1 : Int64)) &&& ((-1 : Int64) <<< ((Int32.ofNat (f / 64 + 1)) &&& 0x3f).toInt64))), .second] []))
        refine Go.step (fun _ k => XS.lload X8.here hx rfl (hb hby d8_7) rfl k) ?_
        show Go _ _ _ _ (T8.setTop (mkF m 9 #[.val (.ref o), .val (.int (Int32.ofNat f)), .val (.int (1 : Int32)), .val (.int (Int32.ofNat (f / 64 + 1))), .val (.long ((v1 ^^^ (-1 : Int64)) &&& ((-1 : Int64) <<< ((Int32.ofNat (f / 64 + 1)) &&& 0x3f).toInt64))), .second] [(.long ((v1 ^^^ (-1 : Int64)) &&& ((-1 : Int64) <<< ((Int32.ofNat (f / 64 + 1)) &&& 0x3f).toInt64)))]))
        refine Go.step (fun _ k => XS.lconst X8.here hx rfl (hb hby d8_9) k) ?_
        show Go _ _ _ _ (T8.setTop (mkF m 10 #[.val (.ref o), .val (.int (Int32.ofNat f)), .val (.int (1 : Int32)), .val (.int (Int32.ofNat (f / 64 + 1))), .val (.long ((v1 ^^^ (-1 : Int64)) &&& ((-1 : Int64) <<< ((Int32.ofNat (f / 64 + 1)) &&& 0x3f).toInt64))), .second] [(.long (0 : Int64)), (.long ((v1 ^^^ (-1 : Int64)) &&& ((-1 : Int64) <<< ((Int32.ofNat (f / 64 + 1)) &&& 0x3f).toInt64)))]))
        refine Go.step (fun _ k => XS.lcmp X8.here hx rfl (hb hby d8_10) rfl k) ?_
        show Go _ _ _ _ (T8.setTop (mkF m 11 #[.val (.ref o), .val (.int (Int32.ofNat f)), .val (.int (1 : Int32)), .val (.int (Int32.ofNat (f / 64 + 1))), .val (.long ((v1 ^^^ (-1 : Int64)) &&& ((-1 : Int64) <<< ((Int32.ofNat (f / 64 + 1)) &&& 0x3f).toInt64))), .second] [(.int (lcmpW ((v1 ^^^ (-1 : Int64)) &&& ((-1 : Int64) <<< ((Int32.ofNat (f / 64 + 1)) &&& 0x3f).toInt64)) (0 : Int64)))]))
        refine Go.step (fun _ k => XS.ifYes X8.here hx rfl (pc0 := 11) (pc' := 85) rfl (hb hby d8_11) rfl ((if0 _ _).trans (feq (fun q => hc9 ((lw_eq _ _).mp q))).2) (by decide) (by decide) k) ?_
        show Go _ _ _ _ (T8.setTop (mkF m 85 #[.val (.ref o), .val (.int (Int32.ofNat f)), .val (.int (1 : Int32)), .val (.int (Int32.ofNat (f / 64 + 1))), .val (.long ((v1 ^^^ (-1 : Int64)) &&& ((-1 : Int64) <<< ((Int32.ofNat (f / 64 + 1)) &&& 0x3f).toInt64))), .second] []))
        refine Go.step (fun _ k => XS.iloadN X8.here hx rfl (hb hby d8_85) rfl k) ?_
        show Go _ _ _ _ (T8.setTop (mkF m 86 #[.val (.ref o), .val (.int (Int32.ofNat f)), .val (.int (1 : Int32)), .val (.int (Int32.ofNat (f / 64 + 1))), .val (.long ((v1 ^^^ (-1 : Int64)) &&& ((-1 : Int64) <<< ((Int32.ofNat (f / 64 + 1)) &&& 0x3f).toInt64))), .second] [(.int (Int32.ofNat (f / 64 + 1)))]))
        refine Go.step (fun _ k => XS.bipush X8.here hx rfl (hb hby d8_86) k) ?_
        show Go _ _ _ _ (T8.setTop (mkF m 88 #[.val (.ref o), .val (.int (Int32.ofNat f)), .val (.int (1 : Int32)), .val (.int (Int32.ofNat (f / 64 + 1))), .val (.long ((v1 ^^^ (-1 : Int64)) &&& ((-1 : Int64) <<< ((Int32.ofNat (f / 64 + 1)) &&& 0x3f).toInt64))), .second] [(.int (-64 : Int32)), (.int (Int32.ofNat (f / 64 + 1)))]))
        refine Go.step (fun _ k => XS.iand X8.here hx rfl (hb hby d8_88) rfl k) ?_
        rw [own_hi64 (by omega)]
        show Go _ _ _ _ (T8.setTop (mkF m 89 #[.val (.ref o), .val (.int (Int32.ofNat f)), .val (.int (1 : Int32)), .val (.int (Int32.ofNat (f / 64 + 1))), .val (.long ((v1 ^^^ (-1 : Int64)) &&& ((-1 : Int64) <<< ((Int32.ofNat (f / 64 + 1)) &&& 0x3f).toInt64))), .second] [(.int (Int32.ofNat (64 * ((f / 64 + 1) / 64))))]))
        refine Go.step (fun _ k => XS.lload X8.here hx rfl (hb hby d8_89) rfl k) ?_
        show Go _ _ _ _ (T8.setTop (mkF m 91 #[.val (.ref o), .val (.int (Int32.ofNat f)), .val (.int (1 : Int32)), .val (.int (Int32.ofNat (f / 64 + 1))), .val (.long ((v1 ^^^ (-1 : Int64)) &&& ((-1 : Int64) <<< ((Int32.ofNat (f / 64 + 1)) &&& 0x3f).toInt64))), .second] [(.long ((v1 ^^^ (-1 : Int64)) &&& ((-1 : Int64) <<< ((Int32.ofNat (f / 64 + 1)) &&& 0x3f).toInt64))), (.int (Int32.ofNat (64 * ((f / 64 + 1) / 64))))]))
        refine goS X8 hx hZ hown (hw _ (List.mem_of_getElem? (i := 47) rfl)) (hw _ (List.mem_of_getElem? (i := 48) rfl)) (hw _ (List.mem_of_getElem? (i := 49) rfl)) (hw _ (List.mem_of_getElem? (i := 50) rfl)) (by decide) (rm9 l Z a0 hw [] ((v1 ^^^ (-1 : Int64)) &&& ((-1 : Int64) <<< ((Int32.ofNat (f / 64 + 1)) &&& 0x3f).toInt64)) h0 hc9) e8 (by rw [hml]; rfl) [(.long ((v1 ^^^ (-1 : Int64)) &&& ((-1 : Int64) <<< ((Int32.ofNat (f / 64 + 1)) &&& 0x3f).toInt64)))] [(.int (Int32.ofNat (64 * ((f / 64 + 1) / 64))))] rfl pd9 rfl rfl 1 rfl (hb hby d8_91) (by decide) (by decide) (by decide) (by decide) fun T13 L13 v13 q13 X13 => ?_
        obtain ⟨⟨k12, rfl, hk12⟩, e13, rfl⟩ := q13
        rw [List.append_nil] at X13
        obtain ⟨K, k1, rfl, k3, k4, k5⟩ := Wd.roomN (n := (f / 64 + 1)) (by omega) (by rw [show (f / 64 + 1) / 64 = 0 by omega]; exact hWd1) hk12
        show Go _ _ _ _ (T13.setTop (mkF m 94 #[.val (.ref o), .val (.int (Int32.ofNat f)), .val (.int (1 : Int32)), .val (.int (Int32.ofNat (f / 64 + 1))), .val (.long ((v1 ^^^ (-1 : Int64)) &&& ((-1 : Int64) <<< ((Int32.ofNat (f / 64 + 1)) &&& 0x3f).toInt64))), .second] [(.int (Int32.ofNat K)), (.int (Int32.ofNat (64 * ((f / 64 + 1) / 64))))]))
        refine Go.step (fun _ k => XS.ior X13.here hx rfl (hb hby d8_94) rfl k) ?_
        rw [own_join (by omega) k1]
        have hK : 64 * ((f / 64 + 1) / 64) + K = f / 64 + 1 := by
          have q1 : ¬ N ≤ 64 * ((f / 64 + 1) / 64) + K := of_decide_eq_false k4
          by_cases q : f / 64 + 1 < 64 * ((f / 64 + 1) / 64) + K
          · have := of_decide_eq_true (k5 (f / 64 + 1) (Nat.le_refl _) q); omega
          · omega
        have hN1 : f / 64 + 1 < N := by have q1 : ¬ N ≤ 64 * ((f / 64 + 1) / 64) + K := of_decide_eq_false k4; omega
        rw [hK]
        show Go _ _ _ _ (T13.setTop (mkF m 95 #[.val (.ref o), .val (.int (Int32.ofNat f)), .val (.int (1 : Int32)), .val (.int (Int32.ofNat (f / 64 + 1))), .val (.long ((v1 ^^^ (-1 : Int64)) &&& ((-1 : Int64) <<< ((Int32.ofNat (f / 64 + 1)) &&& 0x3f).toInt64))), .second] [(.int (Int32.ofNat (f / 64 + 1)))]))
        refine Go.step (fun _ k => XS.istoreN X13.here hx rfl (hb hby d8_95) rfl (l' := #[.val (.ref o), .val (.int (Int32.ofNat f)), .val (.int (1 : Int32)), .val (.int (Int32.ofNat (f / 64 + 1))), .val (.long ((v1 ^^^ (-1 : Int64)) &&& ((-1 : Int64) <<< ((Int32.ofNat (f / 64 + 1)) &&& 0x3f).toInt64))), .second]) rfl k) ?_
        show Go _ _ _ _ (T13.setTop (mkF m 96 #[.val (.ref o), .val (.int (Int32.ofNat f)), .val (.int (1 : Int32)), .val (.int (Int32.ofNat (f / 64 + 1))), .val (.long ((v1 ^^^ (-1 : Int64)) &&& ((-1 : Int64) <<< ((Int32.ofNat (f / 64 + 1)) &&& 0x3f).toInt64))), .second] []))
        refine Go.step (fun _ k => XS.iloadN X13.here hx rfl (hb hby d8_96) rfl k) ?_
        show Go _ _ _ _ (T13.setTop (mkF m 97 #[.val (.ref o), .val (.int (Int32.ofNat f)), .val (.int (1 : Int32)), .val (.int (Int32.ofNat (f / 64 + 1))), .val (.long ((v1 ^^^ (-1 : Int64)) &&& ((-1 : Int64) <<< ((Int32.ofNat (f / 64 + 1)) &&& 0x3f).toInt64))), .second] [(.int (1 : Int32))]))
        refine Go.step (fun _ k => XS.ifNo X13.here hx rfl (hb hby d8_97) rfl ((if0 _ _).trans (tlt (by decide : ((0 : Int32) < (1 : Int32)))).2.2.2) k) ?_
        show Go _ _ _ _ (T13.setTop (mkF m 100 #[.val (.ref o), .val (.int (Int32.ofNat f)), .val (.int (1 : Int32)), .val (.int (Int32.ofNat (f / 64 + 1))), .val (.long ((v1 ^^^ (-1 : Int64)) &&& ((-1 : Int64) <<< ((Int32.ofNat (f / 64 + 1)) &&& 0x3f).toInt64))), .second] []))
        refine Go.step (fun _ k => XS.iinc X13.here hx rfl (hb hby d8_100) rfl (l' := #[.val (.ref o), .val (.int (Int32.ofNat f)), .val (.int (0 : Int32)), .val (.int (Int32.ofNat (f / 64 + 1))), .val (.long ((v1 ^^^ (-1 : Int64)) &&& ((-1 : Int64) <<< ((Int32.ofNat (f / 64 + 1)) &&& 0x3f).toInt64))), .second]) rfl k) ?_
        show Go _ _ _ _ (T13.setTop (mkF m 103 #[.val (.ref o), .val (.int (Int32.ofNat f)), .val (.int (0 : Int32)), .val (.int (Int32.ofNat (f / 64 + 1))), .val (.long ((v1 ^^^ (-1 : Int64)) &&& ((-1 : Int64) <<< ((Int32.ofNat (f / 64 + 1)) &&& 0x3f).toInt64))), .second] []))
        refine Go.step (fun _ k => XS.iloadN X13.here hx rfl (hb hby d8_103) rfl k) ?_
        show Go _ _ _ _ (T13.setTop (mkF m 104 #[.val (.ref o), .val (.int (Int32.ofNat f)), .val (.int (0 : Int32)), .val (.int (Int32.ofNat (f / 64 + 1))), .val (.long ((v1 ^^^ (-1 : Int64)) &&& ((-1 : Int64) <<< ((Int32.ofNat (f / 64 + 1)) &&& 0x3f).toInt64))), .second] [(.int (Int32.ofNat (f / 64 + 1)))]))
        refine Go.step (fun _ k => XS.bipush X13.here hx rfl (hb hby d8_104) k) ?_
        show Go _ _ _ _ (T13.setTop (mkF m 106 #[.val (.ref o), .val (.int (Int32.ofNat f)), .val (.int (0 : Int32)), .val (.int (Int32.ofNat (f / 64 + 1))), .val (.long ((v1 ^^^ (-1 : Int64)) &&& ((-1 : Int64) <<< ((Int32.ofNat (f / 64 + 1)) &&& 0x3f).toInt64))), .second] [(.int (6 : Int32)), (.int (Int32.ofNat (f / 64 + 1)))]))
        refine Go.step (fun _ k => XS.ishl X13.here hx rfl (hb hby d8_106) rfl k) ?_
        rw [own_shl6 (by omega)]
        show Go _ _ _ _ (T13.setTop (mkF m 107 #[.val (.ref o), .val (.int (Int32.ofNat f)), .val (.int (0 : Int32)), .val (.int (Int32.ofNat (f / 64 + 1))), .val (.long ((v1 ^^^ (-1 : Int64)) &&& ((-1 : Int64) <<< ((Int32.ofNat (f / 64 + 1)) &&& 0x3f).toInt64))), .second] [(.int (Int32.ofNat (64 * (f / 64 + 1))))]))
        refine Go.step (fun _ k => XS.aloadN X13.here hx rfl (hb hby d8_107) rfl rfl k) ?_
        show Go _ _ _ _ (T13.setTop (mkF m 108 #[.val (.ref o), .val (.int (Int32.ofNat f)), .val (.int (0 : Int32)), .val (.int (Int32.ofNat (f / 64 + 1))), .val (.long ((v1 ^^^ (-1 : Int64)) &&& ((-1 : Int64) <<< ((Int32.ofNat (f / 64 + 1)) &&& 0x3f).toInt64))), .second] [(.ref o), (.int (Int32.ofNat (64 * (f / 64 + 1))))]))
        obtain ⟨T14, X14, e14, st14⟩ := getF X13 hx hZ hown (host := "") (Or.inl (hw _ (List.mem_of_getElem? (i := 14) rfl))) Via.refl e13 FL (g := (mkF m 108 #[.val (.ref o), .val (.int (Int32.ofNat f)), .val (.int (0 : Int32)), .val (.int (Int32.ofNat (f / 64 + 1))), .val (.long ((v1 ^^^ (-1 : Int64)) &&& ((-1 : Int64) <<< ((Int32.ofNat (f / 64 + 1)) &&& 0x3f).toInt64))), .second] [(.ref o), (.int (Int32.ofNat (64 * (f / 64 + 1))))])) rfl rfl (hb hby d8_108)
        refine Go.step st14 ?_
        show Go _ _ _ _ (T14.setTop (mkF m 111 #[.val (.ref o), .val (.int (Int32.ofNat f)), .val (.int (0 : Int32)), .val (.int (Int32.ofNat (f / 64 + 1))), .val (.long ((v1 ^^^ (-1 : Int64)) &&& ((-1 : Int64) <<< ((Int32.ofNat (f / 64 + 1)) &&& 0x3f).toInt64))), .second] [(.ref tl), (.int (Int32.ofNat (64 * (f / 64 + 1))))]))
        refine Go.step (fun _ k => XS.iloadN X14.here hx rfl (hb hby d8_111) rfl k) ?_
        show Go _ _ _ _ (T14.setTop (mkF m 112 #[.val (.ref o), .val (.int (Int32.ofNat f)), .val (.int (0 : Int32)), .val (.int (Int32.ofNat (f / 64 + 1))), .val (.long ((v1 ^^^ (-1 : Int64)) &&& ((-1 : Int64) <<< ((Int32.ofNat (f / 64 + 1)) &&& 0x3f).toInt64))), .second] [(.int (0 : Int32)), (.ref tl), (.int (Int32.ofNat (64 * (f / 64 + 1))))]))
        refine Go.step (fun tg k => X14.aaload hx (j := (0 : Int32)) (v := (.ref t0)) (by rw [e14]; exact AT.1) (State.isArrayOf_alike hZ.alike AT.2.1) rfl AT.2.2 (own_in (i := 0) (by omega) (by omega)) hc0 (g := (mkF m 112 #[.val (.ref o), .val (.int (Int32.ofNat f)), .val (.int (0 : Int32)), .val (.int (Int32.ofNat (f / 64 + 1))), .val (.long ((v1 ^^^ (-1 : Int64)) &&& ((-1 : Int64) <<< ((Int32.ofNat (f / 64 + 1)) &&& 0x3f).toInt64))), .second] [(.int (0 : Int32)), (.ref tl), (.int (Int32.ofNat (64 * (f / 64 + 1))))])) rfl rfl (hb hby d8_112) tg k) ?_
        show Go _ _ _ _ (T14.setTop (mkF m 113 #[.val (.ref o), .val (.int (Int32.ofNat f)), .val (.int (0 : Int32)), .val (.int (Int32.ofNat (f / 64 + 1))), .val (.long ((v1 ^^^ (-1 : Int64)) &&& ((-1 : Int64) <<< ((Int32.ofNat (f / 64 + 1)) &&& 0x3f).toInt64))), .second] [(.ref t0), (.int (Int32.ofNat (64 * (f / 64 + 1))))]))
        refine Go.step (fun _ k => XS.iloadN X14.here hx rfl (hb hby d8_113) rfl k) ?_
        show Go _ _ _ _ (T14.setTop (mkF m 114 #[.val (.ref o), .val (.int (Int32.ofNat f)), .val (.int (0 : Int32)), .val (.int (Int32.ofNat (f / 64 + 1))), .val (.long ((v1 ^^^ (-1 : Int64)) &&& ((-1 : Int64) <<< ((Int32.ofNat (f / 64 + 1)) &&& 0x3f).toInt64))), .second] [(.int (Int32.ofNat (f / 64 + 1))), (.ref t0), (.int (Int32.ofNat (64 * (f / 64 + 1))))]))
        obtain ⟨v3, hv3, hWd3⟩ := HW (f / 64 + 1) hN1
        refine Go.step (fun tg k => X14.laload hx (j := (Int32.ofNat (f / 64 + 1))) (v := (.long v3)) (by rw [e14]; exact AL.1) (State.isArrayOf_alike hZ.alike AL.2.1) AL.2.2 (own_in (by omega) (by omega)) (by rw [own_clamp (by omega)]; exact hv3) (g := (mkF m 114 #[.val (.ref o), .val (.int (Int32.ofNat f)), .val (.int (0 : Int32)), .val (.int (Int32.ofNat (f / 64 + 1))), .val (.long ((v1 ^^^ (-1 : Int64)) &&& ((-1 : Int64) <<< ((Int32.ofNat (f / 64 + 1)) &&& 0x3f).toInt64))), .second] [(.int (Int32.ofNat (f / 64 + 1))), (.ref t0), (.int (Int32.ofNat (64 * (f / 64 + 1))))])) rfl rfl (hb hby d8_114) tg k) ?_
        show Go _ _ _ _ (T14.setTop (mkF m 115 #[.val (.ref o), .val (.int (Int32.ofNat f)), .val (.int (0 : Int32)), .val (.int (Int32.ofNat (f / 64 + 1))), .val (.long ((v1 ^^^ (-1 : Int64)) &&& ((-1 : Int64) <<< ((Int32.ofNat (f / 64 + 1)) &&& 0x3f).toInt64))), .second] [(.long v3), (.int (Int32.ofNat (64 * (f / 64 + 1))))]))
        refine Go.step (X14.ldc2Long hx hown (mvT hZ (hw _ (List.mem_of_getElem? (i := 36) rfl))) (g := (mkF m 115 #[.val (.ref o), .val (.int (Int32.ofNat f)), .val (.int (0 : Int32)), .val (.int (Int32.ofNat (f / 64 + 1))), .val (.long ((v1 ^^^ (-1 : Int64)) &&& ((-1 : Int64) <<< ((Int32.ofNat (f / 64 + 1)) &&& 0x3f).toInt64))), .second] [(.long v3), (.int (Int32.ofNat (64 * (f / 64 + 1))))])) rfl (hb hby d8_115)) ?_
        show Go _ _ _ _ (T14.setTop (mkF m 118 #[.val (.ref o), .val (.int (Int32.ofNat f)), .val (.int (0 : Int32)), .val (.int (Int32.ofNat (f / 64 + 1))), .val (.long ((v1 ^^^ (-1 : Int64)) &&& ((-1 : Int64) <<< ((Int32.ofNat (f / 64 + 1)) &&& 0x3f).toInt64))), .second] [(.long (-1 : Int64)), (.long v3), (.int (Int32.ofNat (64 * (f / 64 + 1))))]))
        refine Go.step (fun _ k => XS.lxor X14.here hx rfl (hb hby d8_118) rfl k) ?_
        show Go _ _ _ _ (T14.setTop (mkF m 119 #[.val (.ref o), .val (.int (Int32.ofNat f)), .val (.int (0 : Int32)), .val (.int (Int32.ofNat (f / 64 + 1))), .val (.long ((v1 ^^^ (-1 : Int64)) &&& ((-1 : Int64) <<< ((Int32.ofNat (f / 64 + 1)) &&& 0x3f).toInt64))), .second] [(.long (v3 ^^^ (-1 : Int64))), (.int (Int32.ofNat (64 * (f / 64 + 1))))]))
        refine goS X14 hx hZ hown (hw _ (List.mem_of_getElem? (i := 47) rfl)) (hw _ (List.mem_of_getElem? (i := 48) rfl)) (hw _ (List.mem_of_getElem? (i := 49) rfl)) (hw _ (List.mem_of_getElem? (i := 50) rfl)) (by decide) (rm9 l Z a0 hw [] (v3 ^^^ (-1 : Int64)) h0 (hWd3.some (hR _ hN1))) e14 (by rw [hml]; rfl) [(.long (v3 ^^^ (-1 : Int64)))] [(.int (Int32.ofNat (64 * (f / 64 + 1))))] rfl pd9 rfl rfl 1 rfl (hb hby d8_119) (by decide) (by decide) (by decide) (by decide) fun T15 L15 v15 q15 X15 => ?_
        obtain ⟨⟨kz, rfl, hkz⟩, e15, rfl⟩ := q15
        rw [List.append_nil] at X15
        obtain ⟨K3, z1, rfl, z3, z4⟩ := hWd3.next hkz
        show Go _ _ _ _ (T15.setTop (mkF m 122 #[.val (.ref o), .val (.int (Int32.ofNat f)), .val (.int (0 : Int32)), .val (.int (Int32.ofNat (f / 64 + 1))), .val (.long ((v1 ^^^ (-1 : Int64)) &&& ((-1 : Int64) <<< ((Int32.ofNat (f / 64 + 1)) &&& 0x3f).toInt64))), .second] [(.int (Int32.ofNat K3)), (.int (Int32.ofNat (64 * (f / 64 + 1))))]))
        refine Go.step (fun _ k => XS.ior X15.here hx rfl (hb hby d8_122) rfl k) ?_
        rw [own_join (by omega) z1]
        show Go _ _ _ _ (T15.setTop (mkF m 123 #[.val (.ref o), .val (.int (Int32.ofNat f)), .val (.int (0 : Int32)), .val (.int (Int32.ofNat (f / 64 + 1))), .val (.long ((v1 ^^^ (-1 : Int64)) &&& ((-1 : Int64) <<< ((Int32.ofNat (f / 64 + 1)) &&& 0x3f).toInt64))), .second] [(.int (Int32.ofNat (64 * (f / 64 + 1) + K3)))]))
        refine Go.step (fun _ k => XS.istoreN X15.here hx rfl (hb hby d8_123) rfl (l' := #[.val (.ref o), .val (.int (Int32.ofNat f)), .val (.int (0 : Int32)), .val (.int (Int32.ofNat (64 * (f / 64 + 1) + K3))), .val (.long ((v1 ^^^ (-1 : Int64)) &&& ((-1 : Int64) <<< ((Int32.ofNat (f / 64 + 1)) &&& 0x3f).toInt64))), .second]) rfl k) ?_
        show Go _ _ _ _ (T15.setTop (mkF m 124 #[.val (.ref o), .val (.int (Int32.ofNat f)), .val (.int (0 : Int32)), .val (.int (Int32.ofNat (64 * (f / 64 + 1) + K3))), .val (.long ((v1 ^^^ (-1 : Int64)) &&& ((-1 : Int64) <<< ((Int32.ofNat (f / 64 + 1)) &&& 0x3f).toInt64))), .second] []))
        refine Go.step (fun _ k => XS.goto X15.here hx rfl (pc0 := 124) (pc' := 96) rfl (hb hby d8_124) (by decide) (by decide) k) ?_
        show Go _ _ _ _ (T15.setTop (mkF m 96 #[.val (.ref o), .val (.int (Int32.ofNat f)), .val (.int (0 : Int32)), .val (.int (Int32.ofNat (64 * (f / 64 + 1) + K3))), .val (.long ((v1 ^^^ (-1 : Int64)) &&& ((-1 : Int64) <<< ((Int32.ofNat (f / 64 + 1)) &&& 0x3f).toInt64))), .second] []))
        refine Go.step (fun _ k => XS.iloadN X15.here hx rfl (hb hby d8_96) rfl k) ?_
        show Go _ _ _ _ (T15.setTop (mkF m 97 #[.val (.ref o), .val (.int (Int32.ofNat f)), .val (.int (0 : Int32)), .val (.int (Int32.ofNat (64 * (f / 64 + 1) + K3))), .val (.long ((v1 ^^^ (-1 : Int64)) &&& ((-1 : Int64) <<< ((Int32.ofNat (f / 64 + 1)) &&& 0x3f).toInt64))), .second] [(.int (0 : Int32))]))
        refine Go.step (fun _ k => XS.ifYes X15.here hx rfl (pc0 := 97) (pc' := 127) rfl (hb hby d8_97) rfl ((if0 _ _).trans (flt (by decide : ¬ ((0 : Int32) < (0 : Int32)))).2.2.2) (by decide) (by decide) k) ?_
        show Go _ _ _ _ (T15.setTop (mkF m 127 #[.val (.ref o), .val (.int (Int32.ofNat f)), .val (.int (0 : Int32)), .val (.int (Int32.ofNat (64 * (f / 64 + 1) + K3))), .val (.long ((v1 ^^^ (-1 : Int64)) &&& ((-1 : Int64) <<< ((Int32.ofNat (f / 64 + 1)) &&& 0x3f).toInt64))), .second] []))
        refine Go.step (fun _ k => XS.iloadN X15.here hx rfl (hb hby d8_127) rfl k) ?_
        show Go _ _ _ _ (T15.setTop (mkF m 128 #[.val (.ref o), .val (.int (Int32.ofNat f)), .val (.int (0 : Int32)), .val (.int (Int32.ofNat (64 * (f / 64 + 1) + K3))), .val (.long ((v1 ^^^ (-1 : Int64)) &&& ((-1 : Int64) <<< ((Int32.ofNat (f / 64 + 1)) &&& 0x3f).toInt64))), .second] [(.int (Int32.ofNat (64 * (f / 64 + 1) + K3)))]))
        have g64 := (own_lt (by omega) (by omega)).mp hc3
        have r0 := hWd.room0 (by omega) hc5
        exact leafI X15 hx hret hlk (hb hby d8_128) ⟨⟨_, rfl, Or.inr ⟨by omega, by omega, by omega, fun _ => z3, fun y h1 h2 => by
              by_cases q : y < 64 * (f / 64) + 64
              · exact r0 y h1 q
              · exact z4 y (by omega) h2⟩⟩, e15, rfl⟩ (by decide) (by decide)
    · refine Go.step (fun _ k => XS.ifYes X4.here hx rfl (pc0 := 69) (pc' := 7) rfl (hb hby d8_69) rfl ((if0 _ _).trans (feq (fun q => hc5 ((lw_eq _ _).mp q))).2) (by decide) (by decide) k) ?_
      show Go _ _ _ _ (T4.setTop (mkF m 7 #[.val (.ref o), .val (.int (Int32.ofNat f)), .val (.int (0 : Int32)), .val (.int (Int32.ofNat f)), .val (.long ((v ^^^ (-1 : Int64)) &&& ((-1 : Int64) <<< ((Int32.ofNat f) &&& 0x3f).toInt64))), .second] []))
      refine Go.step (fun _ k => XS.lload X4.here hx rfl (hb hby d8_7) rfl k) ?_
      show Go _ _ _ _ (T4.setTop (mkF m 9 #[.val (.ref o), .val (.int (Int32.ofNat f)), .val (.int (0 : Int32)), .val (.int (Int32.ofNat f)), .val (.long ((v ^^^ (-1 : Int64)) &&& ((-1 : Int64) <<< ((Int32.ofNat f) &&& 0x3f).toInt64))), .second] [(.long ((v ^^^ (-1 : Int64)) &&& ((-1 : Int64) <<< ((Int32.ofNat f) &&& 0x3f).toInt64)))]))
      refine Go.step (fun _ k => XS.lconst X4.here hx rfl (hb hby d8_9) k) ?_
      show Go _ _ _ _ (T4.setTop (mkF m 10 #[.val (.ref o), .val (.int (Int32.ofNat f)), .val (.int (0 : Int32)), .val (.int (Int32.ofNat f)), .val (.long ((v ^^^ (-1 : Int64)) &&& ((-1 : Int64) <<< ((Int32.ofNat f) &&& 0x3f).toInt64))), .second] [(.long (0 : Int64)), (.long ((v ^^^ (-1 : Int64)) &&& ((-1 : Int64) <<< ((Int32.ofNat f) &&& 0x3f).toInt64)))]))
      refine Go.step (fun _ k => XS.lcmp X4.here hx rfl (hb hby d8_10) rfl k) ?_
      show Go _ _ _ _ (T4.setTop (mkF m 11 #[.val (.ref o), .val (.int (Int32.ofNat f)), .val (.int (0 : Int32)), .val (.int (Int32.ofNat f)), .val (.long ((v ^^^ (-1 : Int64)) &&& ((-1 : Int64) <<< ((Int32.ofNat f) &&& 0x3f).toInt64))), .second] [(.int (lcmpW ((v ^^^ (-1 : Int64)) &&& ((-1 : Int64) <<< ((Int32.ofNat f) &&& 0x3f).toInt64)) (0 : Int64)))]))
      refine Go.step (fun _ k => XS.ifYes X4.here hx rfl (pc0 := 11) (pc' := 85) rfl (hb hby d8_11) rfl ((if0 _ _).trans (feq (fun q => hc5 ((lw_eq _ _).mp q))).2) (by decide) (by decide) k) ?_
      show Go _ _ _ _ (T4.setTop (mkF m 85 #[.val (.ref o), .val (.int (Int32.ofNat f)), .val (.int (0 : Int32)), .val (.int (Int32.ofNat f)), .val (.long ((v ^^^ (-1 : Int64)) &&& ((-1 : Int64) <<< ((Int32.ofNat f) &&& 0x3f).toInt64))), .second] []))
      refine Go.step (fun _ k => XS.iloadN X4.here hx rfl (hb hby d8_85) rfl k) ?_
      show Go _ _ _ _ (T4.setTop (mkF m 86 #[.val (.ref o), .val (.int (Int32.ofNat f)), .val (.int (0 : Int32)), .val (.int (Int32.ofNat f)), .val (.long ((v ^^^ (-1 : Int64)) &&& ((-1 : Int64) <<< ((Int32.ofNat f) &&& 0x3f).toInt64))), .second] [(.int (Int32.ofNat f))]))
      refine Go.step (fun _ k => XS.bipush X4.here hx rfl (hb hby d8_86) k) ?_
      show Go _ _ _ _ (T4.setTop (mkF m 88 #[.val (.ref o), .val (.int (Int32.ofNat f)), .val (.int (0 : Int32)), .val (.int (Int32.ofNat f)), .val (.long ((v ^^^ (-1 : Int64)) &&& ((-1 : Int64) <<< ((Int32.ofNat f) &&& 0x3f).toInt64))), .second] [(.int (-64 : Int32)), (.int (Int32.ofNat f))]))
      refine Go.step (fun _ k => XS.iand X4.here hx rfl (hb hby d8_88) rfl k) ?_
      rw [own_hi64 (by omega)]
      show Go _ _ _ _ (T4.setTop (mkF m 89 #[.val (.ref o), .val (.int (Int32.ofNat f)), .val (.int (0 : Int32)), .val (.int (Int32.ofNat f)), .val (.long ((v ^^^ (-1 : Int64)) &&& ((-1 : Int64) <<< ((Int32.ofNat f) &&& 0x3f).toInt64))), .second] [(.int (Int32.ofNat (64 * (f / 64))))]))
      refine Go.step (fun _ k => XS.lload X4.here hx rfl (hb hby d8_89) rfl k) ?_
      show Go _ _ _ _ (T4.setTop (mkF m 91 #[.val (.ref o), .val (.int (Int32.ofNat f)), .val (.int (0 : Int32)), .val (.int (Int32.ofNat f)), .val (.long ((v ^^^ (-1 : Int64)) &&& ((-1 : Int64) <<< ((Int32.ofNat f) &&& 0x3f).toInt64))), .second] [(.long ((v ^^^ (-1 : Int64)) &&& ((-1 : Int64) <<< ((Int32.ofNat f) &&& 0x3f).toInt64))), (.int (Int32.ofNat (64 * (f / 64))))]))
      refine goS X4 hx hZ hown (hw _ (List.mem_of_getElem? (i := 47) rfl)) (hw _ (List.mem_of_getElem? (i := 48) rfl)) (hw _ (List.mem_of_getElem? (i := 49) rfl)) (hw _ (List.mem_of_getElem? (i := 50) rfl)) (by decide) (rm9 l Z a0 hw [] ((v ^^^ (-1 : Int64)) &&& ((-1 : Int64) <<< ((Int32.ofNat f) &&& 0x3f).toInt64)) h0 hc5) e4 (by rw [hml]; rfl) [(.long ((v ^^^ (-1 : Int64)) &&& ((-1 : Int64) <<< ((Int32.ofNat f) &&& 0x3f).toInt64)))] [(.int (Int32.ofNat (64 * (f / 64))))] rfl pd9 rfl rfl 1 rfl (hb hby d8_91) (by decide) (by decide) (by decide) (by decide) fun T17 L17 v17 q17 X17 => ?_
      obtain ⟨⟨k16, rfl, hk16⟩, e17, rfl⟩ := q17
      rw [List.append_nil] at X17
      obtain ⟨K, k1, rfl, k3, k4, k5⟩ := hWd.roomN (by omega) hk16
      show Go _ _ _ _ (T17.setTop (mkF m 94 #[.val (.ref o), .val (.int (Int32.ofNat f)), .val (.int (0 : Int32)), .val (.int (Int32.ofNat f)), .val (.long ((v ^^^ (-1 : Int64)) &&& ((-1 : Int64) <<< ((Int32.ofNat f) &&& 0x3f).toInt64))), .second] [(.int (Int32.ofNat K)), (.int (Int32.ofNat (64 * (f / 64))))]))
      refine Go.step (fun _ k => XS.ior X17.here hx rfl (hb hby d8_94) rfl k) ?_
      rw [own_join (by omega) k1]
      show Go _ _ _ _ (T17.setTop (mkF m 95 #[.val (.ref o), .val (.int (Int32.ofNat f)), .val (.int (0 : Int32)), .val (.int (Int32.ofNat f)), .val (.long ((v ^^^ (-1 : Int64)) &&& ((-1 : Int64) <<< ((Int32.ofNat f) &&& 0x3f).toInt64))), .second] [(.int (Int32.ofNat (64 * (f / 64) + K)))]))
      refine Go.step (fun _ k => XS.istoreN X17.here hx rfl (hb hby d8_95) rfl (l' := #[.val (.ref o), .val (.int (Int32.ofNat f)), .val (.int (0 : Int32)), .val (.int (Int32.ofNat (64 * (f / 64) + K))), .val (.long ((v ^^^ (-1 : Int64)) &&& ((-1 : Int64) <<< ((Int32.ofNat f) &&& 0x3f).toInt64))), .second]) rfl k) ?_
      show Go _ _ _ _ (T17.setTop (mkF m 96 #[.val (.ref o), .val (.int (Int32.ofNat f)), .val (.int (0 : Int32)), .val (.int (Int32.ofNat (64 * (f / 64) + K))), .val (.long ((v ^^^ (-1 : Int64)) &&& ((-1 : Int64) <<< ((Int32.ofNat f) &&& 0x3f).toInt64))), .second] []))
      refine Go.step (fun _ k => XS.iloadN X17.here hx rfl (hb hby d8_96) rfl k) ?_
      show Go _ _ _ _ (T17.setTop (mkF m 97 #[.val (.ref o), .val (.int (Int32.ofNat f)), .val (.int (0 : Int32)), .val (.int (Int32.ofNat (64 * (f / 64) + K))), .val (.long ((v ^^^ (-1 : Int64)) &&& ((-1 : Int64) <<< ((Int32.ofNat f) &&& 0x3f).toInt64))), .second] [(.int (0 : Int32))]))
      refine Go.step (fun _ k => XS.ifYes X17.here hx rfl (pc0 := 97) (pc' := 127) rfl (hb hby d8_97) rfl ((if0 _ _).trans (flt (by decide : ¬ ((0 : Int32) < (0 : Int32)))).2.2.2) (by decide) (by decide) k) ?_
      show Go _ _ _ _ (T17.setTop (mkF m 127 #[.val (.ref o), .val (.int (Int32.ofNat f)), .val (.int (0 : Int32)), .val (.int (Int32.ofNat (64 * (f / 64) + K))), .val (.long ((v ^^^ (-1 : Int64)) &&& ((-1 : Int64) <<< ((Int32.ofNat f) &&& 0x3f).toInt64))), .second] []))
      refine Go.step (fun _ k => XS.iloadN X17.here hx rfl (hb hby d8_127) rfl k) ?_
      show Go _ _ _ _ (T17.setTop (mkF m 128 #[.val (.ref o), .val (.int (Int32.ofNat f)), .val (.int (0 : Int32)), .val (.int (Int32.ofNat (64 * (f / 64) + K))), .val (.long ((v ^^^ (-1 : Int64)) &&& ((-1 : Int64) <<< ((Int32.ofNat f) &&& 0x3f).toInt64))), .second] [(.int (Int32.ofNat (64 * (f / 64) + K)))]))
      have g64 := (own_lt (by omega) (by omega)).mp hc3
      exact leafI X17 hx hret hlk (hb hby d8_128) ⟨⟨_, rfl, Or.inr ⟨by omega, k3, by omega, fun _ => k4, k5⟩⟩, e17, rfl⟩ (by decide) (by decide)
  · refine Go.step (fun _ k => XS.icmpNo X2.here hx rfl (hb hby d8_34) rfl (flt hc3).1 k) ?_
    show Go _ _ _ _ (T2.setTop (mkF m 37 #[.val (.ref o), .val (.int (Int32.ofNat f)), .val (.int (0 : Int32)), .val (.int (Int32.ofNat f)), .val (.long (0 : Int64)), .second] []))
    refine Go.step (fun _ k => XS.aloadN X2.here hx rfl (hb hby d8_37) rfl rfl k) ?_
    show Go _ _ _ _ (T2.setTop (mkF m 38 #[.val (.ref o), .val (.int (Int32.ofNat f)), .val (.int (0 : Int32)), .val (.int (Int32.ofNat f)), .val (.long (0 : Int64)), .second] [(.ref o)]))
    obtain ⟨T18, X18, e18, st18⟩ := getF X2 hx hZ hown (host := "") (Or.inl (hw _ (List.mem_of_getElem? (i := 10) rfl))) Via.refl e2 FC (g := (mkF m 38 #[.val (.ref o), .val (.int (Int32.ofNat f)), .val (.int (0 : Int32)), .val (.int (Int32.ofNat f)), .val (.long (0 : Int64)), .second] [(.ref o)])) rfl rfl (hb hby d8_38)
    refine Go.step st18 ?_
    show Go _ _ _ _ (T18.setTop (mkF m 41 #[.val (.ref o), .val (.int (Int32.ofNat f)), .val (.int (0 : Int32)), .val (.int (Int32.ofNat f)), .val (.long (0 : Int64)), .second] [(.int (Int32.ofNat (64 * N)))]))
    have g64 := fun q => hc3 ((own_lt (by omega) (by omega)).mpr q)
    exact leafI X18 hx hret hlk (hb hby d8_41) ⟨⟨64 * N, rfl, Or.inl ⟨by have : ¬ f / 64 < N := g64; omega, rfl⟩⟩, e18, rfl⟩ (by decide) (by decide)
theorem d4_0 : decode jdk_65_method_101_code 0 = .ok (.iconst 0, 1) := by decide +kernel
theorem d4_1 : decode jdk_65_method_101_code 1 = .ok (.istore_n 3, 1) := by decide +kernel
theorem d4_2 : decode jdk_65_method_101_code 2 = .ok (.aload_n 0, 1) := by decide +kernel
theorem d4_3 : decode jdk_65_method_101_code 3 = .ok (.arraylength, 1) := by decide +kernel
theorem d4_4 : decode jdk_65_method_101_code 4 = .ok (.istore 4, 2) := by decide +kernel
theorem d4_6 : decode jdk_65_method_101_code 6 = .ok (.iload_n 3, 1) := by decide +kernel
theorem d4_7 : decode jdk_65_method_101_code 7 = .ok (.iload 4, 2) := by decide +kernel
theorem d4_9 : decode jdk_65_method_101_code 9 = .ok (.if_icmp .ge 13, 3) := by decide +kernel
theorem d4_12 : decode jdk_65_method_101_code 12 = .ok (.aload_n 0, 1) := by decide +kernel
theorem d4_13 : decode jdk_65_method_101_code 13 = .ok (.iload_n 3, 1) := by decide +kernel
theorem d4_14 : decode jdk_65_method_101_code 14 = .ok (.lload_n 1, 1) := by decide +kernel
theorem d4_15 : decode jdk_65_method_101_code 15 = .ok (.lastore, 1) := by decide +kernel
theorem d4_16 : decode jdk_65_method_101_code 16 = .ok (.iinc 3 1, 3) := by decide +kernel
theorem d4_19 : decode jdk_65_method_101_code 19 = .ok (.goto (-13), 3) := by decide +kernel
theorem d4_22 : decode jdk_65_method_101_code 22 = .ok (.return_, 1) := by decide +kernel
theorem pn4 : plainFor (⟨"java/util/Arrays", "fill", "([JJ)V"⟩ : MethodName) = true := plainFor_of_name (by first | (simp [plainName, overriddenIn]; done) | decide +kernel)
theorem pd4 : parseMethodDescriptor "([JJ)V" = some ⟨[(.array .long), .long], none⟩ := by decide +kernel
set_option maxRecDepth 65536 in
set_option maxHeartbeats 40000000 in
theorem loopA {p : Program} {l : Launch} {e : Env} {R : Room} {s : State} {m : MethodId} {args : Array Value} {below : List Frame} {meth : Method} {c : Code} {Z : State} {cells slots C S : Nat} (hx : p.tables.exec = Jvm.exec) (hZ : Z.Warmed39 s.vm) (hby : c.code = jdk_65_method_101_code) (hret : meth.sig.returnType = none) (hlk : meth.locks = false)
    (n0 : Nat) (h0 : Heap) (t : Addr) (M : Nat) (hM : M ≤ 4) (gt : n0 ≤ t) (hC : cells ≤ C) (hS : slots ≤ S) :
    ∀ (k i : Nat) (T : State) (h : Heap) (locs : List Loc), i + k = M → Stand p l e R s m args below meth c T locs cells slots → T.heap = h → Fr n0 locs → Keep h0 h [t] → Lv Z h t M (fun _ => false) →
      Go p.tables e below (EndsAs s C S (fun v h L => v = none ∧ Fr n0 L ∧ Keep h0 h [t] ∧ Lv Z h t M (fun _ => false))) (T.setTop (mkF m 6 #[.val (.ref t), .val (.long (0 : Int64)), .second, .val (.int (Int32.ofNat i)), .val (.int (Int32.ofNat M))] [])) := by
  intro k
  induction k with
  | zero =>
    intro i T h locs hik X eT N K P
    show Go _ _ _ _ (T.setTop (mkF m 6 #[.val (.ref t), .val (.long (0 : Int64)), .second, .val (.int (Int32.ofNat i)), .val (.int (Int32.ofNat M))] []))
    refine Go.step (fun _ k => XS.iloadN X.here hx rfl (hb hby d4_6) rfl k) ?_
    show Go _ _ _ _ (T.setTop (mkF m 7 #[.val (.ref t), .val (.long (0 : Int64)), .second, .val (.int (Int32.ofNat i)), .val (.int (Int32.ofNat M))] [(.int (Int32.ofNat i))]))
    refine Go.step (fun _ k => XS.iload X.here hx rfl (hb hby d4_7) rfl k) ?_
    show Go _ _ _ _ (T.setTop (mkF m 9 #[.val (.ref t), .val (.long (0 : Int64)), .second, .val (.int (Int32.ofNat i)), .val (.int (Int32.ofNat M))] [(.int (Int32.ofNat M)), (.int (Int32.ofNat i))]))
    refine Go.step (fun _ k => XS.icmpYes X.here hx rfl (pc0 := 9) (pc' := 22) rfl (hb hby d4_9) rfl (flt (show ¬ ((Int32.ofNat i) < (Int32.ofNat M)) from (by rw [own_lt (by omega) (by omega)]; omega))).2.1 (by decide) (by decide) k) ?_
    show Go _ _ _ _ (T.setTop (mkF m 22 #[.val (.ref t), .val (.long (0 : Int64)), .second, .val (.int (Int32.ofNat i)), .val (.int (Int32.ofNat M))] []))
    exact leafV X hx hret hlk (hb hby d4_22) ⟨rfl, N, by rw [eT]; exact K, by rw [eT]; exact P⟩ hC hS
  | succ k ih =>
    intro i T h locs hik X eT N K P
    show Go _ _ _ _ (T.setTop (mkF m 6 #[.val (.ref t), .val (.long (0 : Int64)), .second, .val (.int (Int32.ofNat i)), .val (.int (Int32.ofNat M))] []))
    refine Go.step (fun _ k => XS.iloadN X.here hx rfl (hb hby d4_6) rfl k) ?_
    show Go _ _ _ _ (T.setTop (mkF m 7 #[.val (.ref t), .val (.long (0 : Int64)), .second, .val (.int (Int32.ofNat i)), .val (.int (Int32.ofNat M))] [(.int (Int32.ofNat i))]))
    refine Go.step (fun _ k => XS.iload X.here hx rfl (hb hby d4_7) rfl k) ?_
    show Go _ _ _ _ (T.setTop (mkF m 9 #[.val (.ref t), .val (.long (0 : Int64)), .second, .val (.int (Int32.ofNat i)), .val (.int (Int32.ofNat M))] [(.int (Int32.ofNat M)), (.int (Int32.ofNat i))]))
    refine Go.step (fun _ k => XS.icmpNo X.here hx rfl (hb hby d4_9) rfl (tlt ((own_lt (by omega) (by omega)).mpr (by omega))).2.1 k) ?_
    show Go _ _ _ _ (T.setTop (mkF m 12 #[.val (.ref t), .val (.long (0 : Int64)), .second, .val (.int (Int32.ofNat i)), .val (.int (Int32.ofNat M))] []))
    refine Go.step (fun _ k => XS.aloadN X.here hx rfl (hb hby d4_12) rfl rfl k) ?_
    show Go _ _ _ _ (T.setTop (mkF m 13 #[.val (.ref t), .val (.long (0 : Int64)), .second, .val (.int (Int32.ofNat i)), .val (.int (Int32.ofNat M))] [(.ref t)]))
    refine Go.step (fun _ k => XS.iloadN X.here hx rfl (hb hby d4_13) rfl k) ?_
    show Go _ _ _ _ (T.setTop (mkF m 14 #[.val (.ref t), .val (.long (0 : Int64)), .second, .val (.int (Int32.ofNat i)), .val (.int (Int32.ofNat M))] [(.int (Int32.ofNat i)), (.ref t)]))
    refine Go.step (fun _ k => XS.lloadN X.here hx rfl (hb hby d4_14) rfl k) ?_
    show Go _ _ _ _ (T.setTop (mkF m 15 #[.val (.ref t), .val (.long (0 : Int64)), .second, .val (.int (Int32.ofNat i)), .val (.int (Int32.ofNat M))] [(.long (0 : Int64)), (.int (Int32.ofNat i)), (.ref t)]))
    obtain ⟨cl, AL, SL, HW⟩ := P
    obtain ⟨T1, h1, X1, e1, W1, st1⟩ := stJ X hx hZ eT AL (j := Int32.ofNat i) (own_in (by omega) (by omega)) (g := (mkF m 15 #[.val (.ref t), .val (.long (0 : Int64)), .second, .val (.int (Int32.ofNat i)), .val (.int (Int32.ofNat M))] [(.long (0 : Int64)), (.int (Int32.ofNat i)), (.ref t)])) rfl rfl (hb hby d4_15)
    have P1 : Lv Z h1 t M (fun _ => false) := Lv.put AL SL HW (by omega) (by omega) W1 (fun j hj => own_zb j) (fun _ _ _ _ _ => rfl)
    have N1 := Fr.snoc X1 N gt
    have K1 := K.wr W1 (Or.inl (List.mem_of_getElem? (i := 0) rfl))
    refine Go.step st1 ?_
    show Go _ _ _ _ (T1.setTop (mkF m 16 #[.val (.ref t), .val (.long (0 : Int64)), .second, .val (.int (Int32.ofNat i)), .val (.int (Int32.ofNat M))] []))
    refine Go.step (fun _ k => XS.iinc X1.here hx rfl (hb hby d4_16) rfl (l' := #[.val (.ref t), .val (.long (0 : Int64)), .second, .val (.int ((Int32.ofNat i) + (1 : Int32))), .val (.int (Int32.ofNat M))]) rfl k) ?_
    show Go _ _ _ _ (T1.setTop (mkF m 19 #[.val (.ref t), .val (.long (0 : Int64)), .second, .val (.int ((Int32.ofNat i) + (1 : Int32))), .val (.int (Int32.ofNat M))] []))
    refine Go.step (fun _ k => XS.goto X1.here hx rfl (pc0 := 19) (pc' := 6) rfl (hb hby d4_19) (by decide) (by decide) k) ?_
    show Go _ _ _ _ (T1.setTop (mkF m 6 #[.val (.ref t), .val (.long (0 : Int64)), .second, .val (.int ((Int32.ofNat i) + (1 : Int32))), .val (.int (Int32.ofNat M))] []))
    rw [own_one]
    exact ih (i + 1) T1 h1 _ (by omega) X1 e1 N1 K1 P1
theorem ef4 (m : MethodId) (t : Addr) (x1 : Int64) : entryFrame m #[(.ref t), (.long x1)] 5 = mkF m 0 #[.val (.ref t), .val (.long x1), .second, .unset, .unset] [] := by first | (simp [entryFrame, mkF, argsToLocals, Value.category]; done) | rfl
set_option maxRecDepth 65536 in
set_option maxHeartbeats 40000000 in
theorem rm4 (l : Launch) (Z : State) (a0 : Array Value) (hw : ∀ d ∈ tables_1, d.before a0 Z = true) (ws : List Jvm.Cond)  (h0 : Heap) (t : Addr) (M : Nat) (hM : M ≤ 4) (P : Lv Z h0 t M (fun _ => false)) (n0 : Nat) (gt : n0 ≤ t) : Con l Z (⟨"java/util/Arrays", "fill", "([JJ)V"⟩ : MethodName) jdk_65_method_101_code 5 none ws ({ frames := 0, cells := 0, slots := 0, locals := 0 } : Room) #[(.ref t), (.long (0 : Int64))] h0 (fun v h L => v = none ∧ Fr n0 L ∧ Keep h0 h [t] ∧ Lv Z h t M (fun _ => false)) := by
  refine Con.of pn4 fun p e s m below meth c s₁ hZ hx hby hml hown hret hlk hnm X0 e0 => ?_
  rw [ef4]
  show Go _ _ _ _ (s₁.setTop (mkF m 0 #[.val (.ref t), .val (.long (0 : Int64)), .second, .unset, .unset] []))
  refine Go.step (fun _ k => XS.iconst X0.here hx rfl (hb hby d4_0) k) ?_
  show Go _ _ _ _ (s₁.setTop (mkF m 1 #[.val (.ref t), .val (.long (0 : Int64)), .second, .unset, .unset] [(.int (0 : Int32))]))
  refine Go.step (fun _ k => XS.istoreN X0.here hx rfl (hb hby d4_1) rfl (l' := #[.val (.ref t), .val (.long (0 : Int64)), .second, .val (.int (0 : Int32)), .unset]) rfl k) ?_
  show Go _ _ _ _ (s₁.setTop (mkF m 2 #[.val (.ref t), .val (.long (0 : Int64)), .second, .val (.int (0 : Int32)), .unset] []))
  refine Go.step (fun _ k => XS.aloadN X0.here hx rfl (hb hby d4_2) rfl rfl k) ?_
  show Go _ _ _ _ (s₁.setTop (mkF m 3 #[.val (.ref t), .val (.long (0 : Int64)), .second, .val (.int (0 : Int32)), .unset] [(.ref t)]))
  obtain ⟨cl, AL, SL, HW⟩ := id P
  refine Go.step (fun tg k => X0.arraylength hx (by rw [e0]; exact AL.1) (State.isArrayOf_alike hZ.alike AL.2.1) (g := (mkF m 3 #[.val (.ref t), .val (.long (0 : Int64)), .second, .val (.int (0 : Int32)), .unset] [(.ref t)])) rfl rfl (hb hby d4_3) tg k) ?_
  rw [SL]
  show Go _ _ _ _ (s₁.setTop (mkF m 4 #[.val (.ref t), .val (.long (0 : Int64)), .second, .val (.int (0 : Int32)), .unset] [(.int (Int32.ofNat M))]))
  refine Go.step (fun _ k => XS.istore X0.here hx rfl (hb hby d4_4) rfl (l' := #[.val (.ref t), .val (.long (0 : Int64)), .second, .val (.int (0 : Int32)), .val (.int (Int32.ofNat M))]) rfl k) ?_
  show Go _ _ _ _ (s₁.setTop (mkF m 6 #[.val (.ref t), .val (.long (0 : Int64)), .second, .val (.int (0 : Int32)), .val (.int (Int32.ofNat M))] []))
  exact loopA hx hZ hby hret hlk n0 h0 t M hM gt (by decide) (by decide) M 0 _ h0 _ (Nat.zero_add M) X0 e0 (Fr.nil n0) (Keep.refl h0 [t]) P

theorem own_sel {Z s : State} {a0 args : Array Value} {y x : MethodName} (hZ : Z.Warmed39 s.vm) (w5 : (Jvm.Cond.selects y.cls x x).before a0 Z = true) (w6 : (Jvm.Cond.instanceMethod y).before a0 Z = true) (w8 : (Jvm.Cond.privateMethod y).before a0 Z = true)
    (hx : x.cls = y.cls) (hy : y.cls ≠ "java/lang/invoke/MethodHandle" ∧ y.cls ≠ "java/lang/invoke/VarHandle") : (Jvm.Cond.selects y.cls y y).before args s = true := by
  obtain ⟨c2, r2, m2, q1, q2, q3, q4, kP, hkP, hkPi⟩ := Cond.selects_spec (mvT (args := args) hZ w5)
  have q5 := findClass_of_methodNamed q3
  rw [hx] at q5
  cases q1.symm.trans q5
  exact selects_self_of_private q1 hkP hkPi (Cond.privateMethod_at (mvP hZ w8 (args := args))) (mvT hZ w6) hy
section Kit3
variable {p : Program} {l : Launch} {e : Env} {R : Room} {s : State} {m : MethodId} {args : Array Value} {below : List Frame} {meth : Method} {c : Code} {T : State} {locs : List Loc} {cells slots : Nat} {Z : State} {a0 : Array Value} {h : Heap}
theorem goP (X : Stand p l e R s m args below meth c T locs cells slots) (hx : p.tables.exec = Jvm.exec) (hZ : Z.Warmed39 s.vm) {own : String} {index : Nat} {y : MethodName} {bytes : ByteArray} {maxL : Nat} {ret : Option FieldType} (hown : s.vm.findClass own = some m.cls)
    (w1 : (Jvm.Cond.methodLink own index y).before a0 Z = true) (hsel : (Jvm.Cond.selects y.cls y y).before args s = true) (w6 : (Jvm.Cond.instanceMethod y).before a0 Z = true) (w8 : (Jvm.Cond.privateMethod y).before a0 Z = true) (w3 : (Jvm.Cond.initialized y.cls).before a0 Z = true) (w4 : (Jvm.Cond.code y bytes maxL ret).before a0 Z = true)
    (hy : y.cls ≠ "java/lang/invoke/MethodHandle" ∧ y.cls ≠ "java/lang/invoke/VarHandle") {rm : Room} {as : Array Value} {Qc : Option Value → Heap → List Loc → Prop} (hM : Con l Z y bytes maxL ret [] rm as h Qc) (eT : T.heap = h)
    {a : Addr} {C : String} (E : Exa Z h a C) {pc : Nat} {Ls : Array Slot} {st : List Value} (hsize : Ls.size = c.maxLocals) (argsL rest : List Value) (has : (Value.ref a :: argsL).toArray = as) {ps : List FieldType} {r : Option FieldType} (hpd : parseMethodDescriptor y.desc = some ⟨ps, r⟩) (hlen : argsL.length = ps.length) (hst : st = argsL.reverse ++ .ref a :: rest)
    (W : Nat) (hW : (rest.map fun v => v.category).sum = W) (hd : decode c.code pc = .ok (.invokevirtual index, 3)) (hf : rm.frames + 1 ≤ R.frames) (hl : W + (maxL + 11) + rm.locals ≤ R.locals) (hc : cells + rm.cells ≤ R.cells) (hs : slots + rm.slots ≤ R.slots) {P : Outcome → State → Prop}
    (k : ∀ (T' : State) (L : List Loc) (v : Option Value), Qc v T'.heap L → Stand p l e R s m args below meth c T' (locs ++ L) (cells + rm.cells) (slots + rm.slots) → Go p.tables e below P (T'.setTop (mkF m (pc + 3) Ls (v.toList ++ rest)))) :
    Go p.tables e below P (T.setTop (mkF m pc Ls st)) := by
  subst hst
  obtain ⟨cell, kk, q1, q2, q3, q4, -⟩ := E
  obtain ⟨v, _, ⟨T', L', k', n'⟩, -, X', ⟨L, hQ, q1, q2, q3⟩, st⟩ := X.privateBack hx (y := y) hown (mvT hZ w1) (mvT hZ w6) hsel (Cond.privateMethod_at (mvP hZ w8 (args := #[]))) (mvT hZ w4) hy (backOf (W := W) hM hZ w4 w3 hf hl) (g := mkF m pc Ls (argsL.reverse ++ .ref a :: rest)) rfl hsize (Steps.refl _) (a := a) (by rw [eT]; exact q1) (fun z h => by rw [h] at q4; cases q4) (argsL := argsL) (rest := rest) (lenOf hpd hlen) rfl (by show 2 * 0 + _ ≤ _; omega) hd (fun _ _ => ⟨has, eT, hc, hs⟩)
  dsimp only [Pt.U, Pt.locs, Pt.cells, Pt.slots] at X' q1 q2 q3 st hQ
  subst q1 q2 q3
  exact Go.via st (k T' L v hQ X')
end Kit3

theorem d3_0 : decode prog_9_method_6_code 0 = .ok (.aload_n 0, 1) := by decide +kernel
theorem d3_1 : decode prog_9_method_6_code 1 = .ok (.getfield 15, 3) := by decide +kernel
theorem d3_4 : decode prog_9_method_6_code 4 = .ok (.astore_n 1, 1) := by decide +kernel
theorem d3_5 : decode prog_9_method_6_code 5 = .ok (.aload_n 1, 1) := by decide +kernel
theorem d3_6 : decode prog_9_method_6_code 6 = .ok (.arraylength, 1) := by decide +kernel
theorem d3_7 : decode prog_9_method_6_code 7 = .ok (.istore_n 2, 1) := by decide +kernel
theorem d3_8 : decode prog_9_method_6_code 8 = .ok (.iconst 0, 1) := by decide +kernel
theorem d3_9 : decode prog_9_method_6_code 9 = .ok (.istore_n 3, 1) := by decide +kernel
theorem d3_10 : decode prog_9_method_6_code 10 = .ok (.iload_n 3, 1) := by decide +kernel
theorem d3_11 : decode prog_9_method_6_code 11 = .ok (.iload_n 2, 1) := by decide +kernel
theorem d3_12 : decode prog_9_method_6_code 12 = .ok (.if_icmp .ge 20, 3) := by decide +kernel
theorem d3_15 : decode prog_9_method_6_code 15 = .ok (.aload_n 1, 1) := by decide +kernel
theorem d3_16 : decode prog_9_method_6_code 16 = .ok (.iload_n 3, 1) := by decide +kernel
theorem d3_17 : decode prog_9_method_6_code 17 = .ok (.aaload, 1) := by decide +kernel
theorem d3_18 : decode prog_9_method_6_code 18 = .ok (.astore 4, 2) := by decide +kernel
theorem d3_20 : decode prog_9_method_6_code 20 = .ok (.aload 4, 2) := by decide +kernel
theorem d3_22 : decode prog_9_method_6_code 22 = .ok (.lconst 0, 1) := by decide +kernel
theorem d3_23 : decode prog_9_method_6_code 23 = .ok (.invokestatic 34, 3) := by decide +kernel
theorem d3_26 : decode prog_9_method_6_code 26 = .ok (.iinc 3 1, 3) := by decide +kernel
theorem d3_29 : decode prog_9_method_6_code 29 = .ok (.goto (-19), 3) := by decide +kernel
theorem d3_32 : decode prog_9_method_6_code 32 = .ok (.iconst 1, 1) := by decide +kernel
theorem d3_33 : decode prog_9_method_6_code 33 = .ok (.istore_n 1, 1) := by decide +kernel
theorem d3_34 : decode prog_9_method_6_code 34 = .ok (.iload_n 1, 1) := by decide +kernel
theorem d3_35 : decode prog_9_method_6_code 35 = .ok (.aload_n 0, 1) := by decide +kernel
theorem d3_36 : decode prog_9_method_6_code 36 = .ok (.getfield 15, 3) := by decide +kernel
theorem d3_39 : decode prog_9_method_6_code 39 = .ok (.arraylength, 1) := by decide +kernel
theorem d3_40 : decode prog_9_method_6_code 40 = .ok (.if_icmp .ge 47, 3) := by decide +kernel
theorem d3_43 : decode prog_9_method_6_code 43 = .ok (.aload_n 0, 1) := by decide +kernel
theorem d3_44 : decode prog_9_method_6_code 44 = .ok (.getfield 15, 3) := by decide +kernel
theorem d3_47 : decode prog_9_method_6_code 47 = .ok (.iload_n 1, 1) := by decide +kernel
theorem d3_48 : decode prog_9_method_6_code 48 = .ok (.aaload, 1) := by decide +kernel
theorem d3_49 : decode prog_9_method_6_code 49 = .ok (.arraylength, 1) := by decide +kernel
theorem d3_50 : decode prog_9_method_6_code 50 = .ok (.bipush 6, 2) := by decide +kernel
theorem d3_52 : decode prog_9_method_6_code 52 = .ok (.ishl, 1) := by decide +kernel
theorem d3_53 : decode prog_9_method_6_code 53 = .ok (.istore_n 2, 1) := by decide +kernel
theorem d3_54 : decode prog_9_method_6_code 54 = .ok (.aload_n 0, 1) := by decide +kernel
theorem d3_55 : decode prog_9_method_6_code 55 = .ok (.getfield 15, 3) := by decide +kernel
theorem d3_58 : decode prog_9_method_6_code 58 = .ok (.iload_n 1, 1) := by decide +kernel
theorem d3_59 : decode prog_9_method_6_code 59 = .ok (.iconst 1, 1) := by decide +kernel
theorem d3_60 : decode prog_9_method_6_code 60 = .ok (.isub, 1) := by decide +kernel
theorem d3_61 : decode prog_9_method_6_code 61 = .ok (.aaload, 1) := by decide +kernel
theorem d3_62 : decode prog_9_method_6_code 62 = .ok (.arraylength, 1) := by decide +kernel
theorem d3_63 : decode prog_9_method_6_code 63 = .ok (.istore_n 3, 1) := by decide +kernel
theorem d3_64 : decode prog_9_method_6_code 64 = .ok (.iload_n 3, 1) := by decide +kernel
theorem d3_65 : decode prog_9_method_6_code 65 = .ok (.iload_n 2, 1) := by decide +kernel
theorem d3_66 : decode prog_9_method_6_code 66 = .ok (.if_icmp .ge 15, 3) := by decide +kernel
theorem d3_69 : decode prog_9_method_6_code 69 = .ok (.aload_n 0, 1) := by decide +kernel
theorem d3_70 : decode prog_9_method_6_code 70 = .ok (.iload_n 1, 1) := by decide +kernel
theorem d3_71 : decode prog_9_method_6_code 71 = .ok (.iload_n 3, 1) := by decide +kernel
theorem d3_72 : decode prog_9_method_6_code 72 = .ok (.invokevirtual 22, 3) := by decide +kernel
theorem d3_75 : decode prog_9_method_6_code 75 = .ok (.iinc 3 1, 3) := by decide +kernel
theorem d3_78 : decode prog_9_method_6_code 78 = .ok (.goto (-14), 3) := by decide +kernel
theorem d3_81 : decode prog_9_method_6_code 81 = .ok (.iinc 1 1, 3) := by decide +kernel
theorem d3_84 : decode prog_9_method_6_code 84 = .ok (.goto (-50), 3) := by decide +kernel
theorem d3_87 : decode prog_9_method_6_code 87 = .ok (.return_, 1) := by decide +kernel
theorem pn3 : plainFor (⟨"com/example/prefix_scope/prefixscope/NumberSet", "clear", "()V"⟩ : MethodName) = true := plainFor_of_name (by first | (simp [plainName, overriddenIn]; done) | decide +kernel)
theorem pd3 : parseMethodDescriptor "()V" = some ⟨[], none⟩ := by decide +kernel
theorem ef3 (m : MethodId) (o : Addr) : entryFrame m #[(.ref o)] 5 = mkF m 0 #[.val (.ref o), .unset, .unset, .unset, .unset] [] := by first | (simp [entryFrame, mkF, argsToLocals, Value.category]; done) | rfl
set_option maxRecDepth 65536 in
set_option maxHeartbeats 40000000 in
theorem loopC {p : Program} (l : Launch) {e : Env} {s : State} {m : MethodId} {args : Array Value} {below : List Frame} {meth : Method} {c : Code} {Z : State} {a0 : Array Value} (hx : p.tables.exec = Jvm.exec) (hZ : Z.Warmed39 s.vm) (hw : ∀ d ∈ tables_1, d.before a0 Z = true) (hby : c.code = prog_9_method_6_code) (hml : c.maxLocals = 5) (hown : s.vm.findClass "com/example/prefix_scope/prefixscope/NumberSet" = some m.cls) (hret : meth.sig.returnType = none) (hlk : meth.locks = false)
    (n0 : Nat) (h0 : Heap) (o tl t0 t1 : Addr) (N : Nat) (cT : Cell) (hsz : cT.slots.size = 2) (hc0 : cT.slots[0]? = some (.ref t0)) (hc1 : cT.slots[1]? = some (.ref t1)) (gt0 : n0 ≤ t0) (gt1 : n0 ≤ t1) (ne1 : o ≠ t0) (ne2 : tl ≠ t0) (ne3 : o ≠ t1) (ne4 : tl ≠ t1) (ne5 : t0 ≠ t1) (hN : N ≤ 4) (hN2 : 1 < N) :
    ∀ (k i : Nat) (T : State) (h : Heap) (locs : List Loc), i + k = 64 → N ≤ i → Stand p l e ({ frames := 1, cells := 0, slots := 0, locals := 19 } : Room) s m args below meth c T locs 0 0 → T.heap = h → Fr n0 locs → Keep h0 h [t0, t1] → Exa Z h o "com/example/prefix_scope/prefixscope/NumberSet" → Fld Z h o "com/example/prefix_scope/prefixscope/NumberSet" "levels" "[[J" (.ref tl) → Arr Z h tl cT (.array .long) → Lv Z h t0 N (fun _ => false) → Lv Z h t1 1 (fun j => decide (N ≤ j ∧ j < i)) →
      Go p.tables e below (EndsAs s 0 0 (fun v h L => v = none ∧ Fr n0 L ∧ Keep h0 h [t0, t1] ∧ Lv Z h t0 N (fun _ => false) ∧ Lv Z h t1 1 (fun j => decide (N ≤ j)))) (T.setTop (mkF m 64 #[.val (.ref o), .val (.int (1 : Int32)), .val (.int (Int32.ofNat 64)), .val (.int (Int32.ofNat i)), .val (.ref t1)] [])) := by
  intro k
  induction k with
  | zero =>
    intro i T h locs hik hNi X eT N_ K E FL AT P0 P1
    show Go _ _ _ _ (T.setTop (mkF m 64 #[.val (.ref o), .val (.int (1 : Int32)), .val (.int (Int32.ofNat 64)), .val (.int (Int32.ofNat i)), .val (.ref t1)] []))
    refine Go.step (fun _ k => XS.iloadN X.here hx rfl (hb hby d3_64) rfl k) ?_
    show Go _ _ _ _ (T.setTop (mkF m 65 #[.val (.ref o), .val (.int (1 : Int32)), .val (.int (Int32.ofNat 64)), .val (.int (Int32.ofNat i)), .val (.ref t1)] [(.int (Int32.ofNat i))]))
    refine Go.step (fun _ k => XS.iloadN X.here hx rfl (hb hby d3_65) rfl k) ?_
    show Go _ _ _ _ (T.setTop (mkF m 66 #[.val (.ref o), .val (.int (1 : Int32)), .val (.int (Int32.ofNat 64)), .val (.int (Int32.ofNat i)), .val (.ref t1)] [(.int (Int32.ofNat 64)), (.int (Int32.ofNat i))]))
    refine Go.step (fun _ k => XS.icmpYes X.here hx rfl (pc0 := 66) (pc' := 81) rfl (hb hby d3_66) rfl (flt (show ¬ ((Int32.ofNat i) < (Int32.ofNat 64)) from (by rw [own_lt (by omega) (by omega)]; omega))).2.1 (by decide) (by decide) k) ?_
    show Go _ _ _ _ (T.setTop (mkF m 81 #[.val (.ref o), .val (.int (1 : Int32)), .val (.int (Int32.ofNat 64)), .val (.int (Int32.ofNat i)), .val (.ref t1)] []))
    refine Go.step (fun _ k => XS.iinc X.here hx rfl (hb hby d3_81) rfl (l' := #[.val (.ref o), .val (.int (2 : Int32)), .val (.int (Int32.ofNat 64)), .val (.int (Int32.ofNat i)), .val (.ref t1)]) rfl k) ?_
    show Go _ _ _ _ (T.setTop (mkF m 84 #[.val (.ref o), .val (.int (2 : Int32)), .val (.int (Int32.ofNat 64)), .val (.int (Int32.ofNat i)), .val (.ref t1)] []))
    refine Go.step (fun _ k => XS.goto X.here hx rfl (pc0 := 84) (pc' := 34) rfl (hb hby d3_84) (by decide) (by decide) k) ?_
    show Go _ _ _ _ (T.setTop (mkF m 34 #[.val (.ref o), .val (.int (2 : Int32)), .val (.int (Int32.ofNat 64)), .val (.int (Int32.ofNat i)), .val (.ref t1)] []))
    refine Go.step (fun _ k => XS.iloadN X.here hx rfl (hb hby d3_34) rfl k) ?_
    show Go _ _ _ _ (T.setTop (mkF m 35 #[.val (.ref o), .val (.int (2 : Int32)), .val (.int (Int32.ofNat 64)), .val (.int (Int32.ofNat i)), .val (.ref t1)] [(.int (2 : Int32))]))
    refine Go.step (fun _ k => XS.aloadN X.here hx rfl (hb hby d3_35) rfl rfl k) ?_
    show Go _ _ _ _ (T.setTop (mkF m 36 #[.val (.ref o), .val (.int (2 : Int32)), .val (.int (Int32.ofNat 64)), .val (.int (Int32.ofNat i)), .val (.ref t1)] [(.ref o), (.int (2 : Int32))]))
    obtain ⟨T1, X1, e1, st1⟩ := getF X hx hZ hown (host := "") (Or.inl (hw _ (List.mem_of_getElem? (i := 14) rfl))) Via.refl eT FL (g := (mkF m 36 #[.val (.ref o), .val (.int (2 : Int32)), .val (.int (Int32.ofNat 64)), .val (.int (Int32.ofNat i)), .val (.ref t1)] [(.ref o), (.int (2 : Int32))])) rfl rfl (hb hby d3_36)
    refine Go.step st1 ?_
    show Go _ _ _ _ (T1.setTop (mkF m 39 #[.val (.ref o), .val (.int (2 : Int32)), .val (.int (Int32.ofNat 64)), .val (.int (Int32.ofNat i)), .val (.ref t1)] [(.ref tl), (.int (2 : Int32))]))
    refine Go.step (fun tg k => X1.arraylength hx (by rw [e1]; exact AT.1) (State.isArrayOf_alike hZ.alike AT.2.1) (g := (mkF m 39 #[.val (.ref o), .val (.int (2 : Int32)), .val (.int (Int32.ofNat 64)), .val (.int (Int32.ofNat i)), .val (.ref t1)] [(.ref tl), (.int (2 : Int32))])) rfl rfl (hb hby d3_39) tg k) ?_
    rw [hsz]
    show Go _ _ _ _ (T1.setTop (mkF m 40 #[.val (.ref o), .val (.int (2 : Int32)), .val (.int (Int32.ofNat 64)), .val (.int (Int32.ofNat i)), .val (.ref t1)] [(.int (Int32.ofNat 2)), (.int (2 : Int32))]))
    refine Go.step (fun _ k => XS.icmpYes X1.here hx rfl (pc0 := 40) (pc' := 87) rfl (hb hby d3_40) rfl (flt (show ¬ ((2 : Int32) < (Int32.ofNat 2)) from (by decide : ¬ ((2 : Int32) < (Int32.ofNat 2))))).2.1 (by decide) (by decide) k) ?_
    show Go _ _ _ _ (T1.setTop (mkF m 87 #[.val (.ref o), .val (.int (2 : Int32)), .val (.int (Int32.ofNat 64)), .val (.int (Int32.ofNat i)), .val (.ref t1)] []))
    exact leafV X1 hx hret hlk (hb hby d3_87) ⟨rfl, N_, by rw [e1]; exact K, by rw [e1]; exact P0, by rw [e1]; exact P1.alike fun y hy => by rw [show (decide (N ≤ y) : Bool) = decide (N ≤ y ∧ y < i) by by_cases q : N ≤ y <;> simp [q]; omega]⟩ (Nat.le_refl _) (Nat.le_refl _)
  | succ k ih =>
    intro i T h locs hik hNi X eT N_ K E FL AT P0 P1
    show Go _ _ _ _ (T.setTop (mkF m 64 #[.val (.ref o), .val (.int (1 : Int32)), .val (.int (Int32.ofNat 64)), .val (.int (Int32.ofNat i)), .val (.ref t1)] []))
    refine Go.step (fun _ k => XS.iloadN X.here hx rfl (hb hby d3_64) rfl k) ?_
    show Go _ _ _ _ (T.setTop (mkF m 65 #[.val (.ref o), .val (.int (1 : Int32)), .val (.int (Int32.ofNat 64)), .val (.int (Int32.ofNat i)), .val (.ref t1)] [(.int (Int32.ofNat i))]))
    refine Go.step (fun _ k => XS.iloadN X.here hx rfl (hb hby d3_65) rfl k) ?_
    show Go _ _ _ _ (T.setTop (mkF m 66 #[.val (.ref o), .val (.int (1 : Int32)), .val (.int (Int32.ofNat 64)), .val (.int (Int32.ofNat i)), .val (.ref t1)] [(.int (Int32.ofNat 64)), (.int (Int32.ofNat i))]))
    refine Go.step (fun _ k => XS.icmpNo X.here hx rfl (hb hby d3_66) rfl (tlt ((own_lt (by omega) (by omega)).mpr (by omega))).2.1 k) ?_
    show Go _ _ _ _ (T.setTop (mkF m 69 #[.val (.ref o), .val (.int (1 : Int32)), .val (.int (Int32.ofNat 64)), .val (.int (Int32.ofNat i)), .val (.ref t1)] []))
    refine Go.step (fun _ k => XS.aloadN X.here hx rfl (hb hby d3_69) rfl rfl k) ?_
    show Go _ _ _ _ (T.setTop (mkF m 70 #[.val (.ref o), .val (.int (1 : Int32)), .val (.int (Int32.ofNat 64)), .val (.int (Int32.ofNat i)), .val (.ref t1)] [(.ref o)]))
    refine Go.step (fun _ k => XS.iloadN X.here hx rfl (hb hby d3_70) rfl k) ?_
    show Go _ _ _ _ (T.setTop (mkF m 71 #[.val (.ref o), .val (.int (1 : Int32)), .val (.int (Int32.ofNat 64)), .val (.int (Int32.ofNat i)), .val (.ref t1)] [(.int (1 : Int32)), (.ref o)]))
    refine Go.step (fun _ k => XS.iloadN X.here hx rfl (hb hby d3_71) rfl k) ?_
    show Go _ _ _ _ (T.setTop (mkF m 72 #[.val (.ref o), .val (.int (1 : Int32)), .val (.int (Int32.ofNat 64)), .val (.int (Int32.ofNat i)), .val (.ref t1)] [(.int (Int32.ofNat i)), (.int (1 : Int32)), (.ref o)]))
    have hRf : ∃ j, j < 64 ∧ (fun y => decide (N ≤ y ∧ y < i) || decide (y = i)) (64 * (i / 64) + j) = false := ⟨0, by omega, by simp only [show i / 64 = 0 by omega]; rw [decide_eq_false (by omega), decide_eq_false (by omega)]; rfl⟩
    refine goP X hx hZ (C := "com/example/prefix_scope/prefixscope/NumberSet") hown (hw _ (List.mem_of_getElem? (i := 32) rfl)) (own_sel hZ (x := ⟨"com/example/prefix_scope/prefixscope/NumberSet", "clear", "()V"⟩) (hw _ (List.mem_of_getElem? (i := 21) rfl)) (hw _ (List.mem_of_getElem? (i := 33) rfl)) (hw _ (List.mem_of_getElem? (i := 34) rfl)) rfl (by decide)) (hw _ (List.mem_of_getElem? (i := 33) rfl)) (hw _ (List.mem_of_getElem? (i := 34) rfl)) (hw _ (List.mem_of_getElem? (i := 3) rfl)) (hw _ (List.mem_of_getElem? (i := 35) rfl)) (by decide) (rm6 l Z a0 hw [] h o tl t1 1 i 1 cT (fun j => decide (N ≤ j ∧ j < i)) (by omega) (by omega) hc1 FL AT P1 (by omega) (by omega) hRf n0 gt1) eT E (by rw [hml]; rfl) [.int (1 : Int32), .int (Int32.ofNat i)] [] rfl pd6 rfl rfl 0 rfl (hb hby d3_72) (by decide) (by decide) (by decide) (by decide) fun T1 L1 v1 q1 X1 => ?_
    obtain ⟨rfl, N1, K1, P1'⟩ := q1
    have PP := P1'.alike (g' := fun j => decide (N ≤ j ∧ j < i + 1)) fun y hy => by
      by_cases q : y = i
      · simp [q]; omega
      · simp only [decide_eq_false q, Bool.or_false]; by_cases r : N ≤ y ∧ y < i
        · rw [decide_eq_true r, decide_eq_true (by omega)]
        · rw [decide_eq_false r, decide_eq_false (by omega)]
    show Go _ _ _ _ (T1.setTop (mkF m 75 #[.val (.ref o), .val (.int (1 : Int32)), .val (.int (Int32.ofNat 64)), .val (.int (Int32.ofNat i)), .val (.ref t1)] []))
    refine Go.step (fun _ k => XS.iinc X1.here hx rfl (hb hby d3_75) rfl (l' := #[.val (.ref o), .val (.int (1 : Int32)), .val (.int (Int32.ofNat 64)), .val (.int ((Int32.ofNat i) + (1 : Int32))), .val (.ref t1)]) rfl k) ?_
    show Go _ _ _ _ (T1.setTop (mkF m 78 #[.val (.ref o), .val (.int (1 : Int32)), .val (.int (Int32.ofNat 64)), .val (.int ((Int32.ofNat i) + (1 : Int32))), .val (.ref t1)] []))
    refine Go.step (fun _ k => XS.goto X1.here hx rfl (pc0 := 78) (pc' := 64) rfl (hb hby d3_78) (by decide) (by decide) k) ?_
    show Go _ _ _ _ (T1.setTop (mkF m 64 #[.val (.ref o), .val (.int (1 : Int32)), .val (.int (Int32.ofNat 64)), .val (.int ((Int32.ofNat i) + (1 : Int32))), .val (.ref t1)] []))
    rw [own_one]
    exact ih (i + 1) T1 T1.heap _ (by omega) (by omega) X1 rfl (Fr.app N_ N1) (K.trans K1 (by intro x hx; simp at hx; subst hx; exact Or.inl (by simp))) (E.keep K1) (FL.keep K1 (ninS ne3 nin0)) ⟨K1.2.1 _ _ AT.1 (ninS ne4 nin0), AT.2⟩ (P0.keep K1 (ninS ne5 nin0)) PP
set_option maxRecDepth 65536 in
set_option maxHeartbeats 40000000 in
theorem rmCl1 (l : Launch) (Z : State) (a0 : Array Value) (hw : ∀ d ∈ tables_1, d.before a0 Z = true) (ws : List Jvm.Cond)  (h0 : Heap) (o tl t0 : Addr) (N : Nat) (cT : Cell) (hsz : cT.slots.size = 1) (hc0 : cT.slots[0]? = some (.ref t0)) (E0 : Exa Z h0 o "com/example/prefix_scope/prefixscope/NumberSet") (FL : Fld Z h0 o "com/example/prefix_scope/prefixscope/NumberSet" "levels" "[[J" (.ref tl)) (AT : Arr Z h0 tl cT (.array .long)) (HL : Lv Z h0 t0 N (fun _ => false)) (hN : N ≤ 4) (n0 : Nat) (gt0 : n0 ≤ t0) (ne1 : o ≠ t0) (ne2 : tl ≠ t0) : Con l Z (⟨"com/example/prefix_scope/prefixscope/NumberSet", "clear", "()V"⟩ : MethodName) prog_9_method_6_code 5 none ws ({ frames := 1, cells := 0, slots := 0, locals := 19 } : Room) #[(.ref o)] h0 (fun v h L => v = none ∧ Fr n0 L ∧ Keep h0 h [t0] ∧ Lv Z h t0 N (fun _ => false)) := by
  refine Con.of pn3 fun p e s m below meth c s₁ hZ hx hby hml hown hret hlk hnm X0 e0 => ?_
  rw [ef3]
  show Go _ _ _ _ (s₁.setTop (mkF m 0 #[.val (.ref o), .unset, .unset, .unset, .unset] []))
  refine Go.step (fun _ k => XS.aloadN X0.here hx rfl (hb hby d3_0) rfl rfl k) ?_
  show Go _ _ _ _ (s₁.setTop (mkF m 1 #[.val (.ref o), .unset, .unset, .unset, .unset] [(.ref o)]))
  obtain ⟨T1, X1, e1, st1⟩ := getF X0 hx hZ hown (host := "") (Or.inl (hw _ (List.mem_of_getElem? (i := 14) rfl))) Via.refl e0 FL (g := (mkF m 1 #[.val (.ref o), .unset, .unset, .unset, .unset] [(.ref o)])) rfl rfl (hb hby d3_1)
  refine Go.step st1 ?_
  show Go _ _ _ _ (T1.setTop (mkF m 4 #[.val (.ref o), .unset, .unset, .unset, .unset] [(.ref tl)]))
  refine Go.step (fun _ k => XS.astoreN X1.here hx rfl (hb hby d3_4) rfl rfl (l' := #[.val (.ref o), .val (.ref tl), .unset, .unset, .unset]) rfl k) ?_
  show Go _ _ _ _ (T1.setTop (mkF m 5 #[.val (.ref o), .val (.ref tl), .unset, .unset, .unset] []))
  refine Go.step (fun _ k => XS.aloadN X1.here hx rfl (hb hby d3_5) rfl rfl k) ?_
  show Go _ _ _ _ (T1.setTop (mkF m 6 #[.val (.ref o), .val (.ref tl), .unset, .unset, .unset] [(.ref tl)]))
  refine Go.step (fun tg k => X1.arraylength hx (by rw [e1]; exact AT.1) (State.isArrayOf_alike hZ.alike AT.2.1) (g := (mkF m 6 #[.val (.ref o), .val (.ref tl), .unset, .unset, .unset] [(.ref tl)])) rfl rfl (hb hby d3_6) tg k) ?_
  rw [hsz]
  show Go _ _ _ _ (T1.setTop (mkF m 7 #[.val (.ref o), .val (.ref tl), .unset, .unset, .unset] [(.int (Int32.ofNat 1))]))
  refine Go.step (fun _ k => XS.istoreN X1.here hx rfl (hb hby d3_7) rfl (l' := #[.val (.ref o), .val (.ref tl), .val (.int (Int32.ofNat 1)), .unset, .unset]) rfl k) ?_
  show Go _ _ _ _ (T1.setTop (mkF m 8 #[.val (.ref o), .val (.ref tl), .val (.int (Int32.ofNat 1)), .unset, .unset] []))
  refine Go.step (fun _ k => XS.iconst X1.here hx rfl (hb hby d3_8) k) ?_
  show Go _ _ _ _ (T1.setTop (mkF m 9 #[.val (.ref o), .val (.ref tl), .val (.int (Int32.ofNat 1)), .unset, .unset] [(.int (0 : Int32))]))
  refine Go.step (fun _ k => XS.istoreN X1.here hx rfl (hb hby d3_9) rfl (l' := #[.val (.ref o), .val (.ref tl), .val (.int (Int32.ofNat 1)), .val (.int (0 : Int32)), .unset]) rfl k) ?_
  show Go _ _ _ _ (T1.setTop (mkF m 10 #[.val (.ref o), .val (.ref tl), .val (.int (Int32.ofNat 1)), .val (.int (0 : Int32)), .unset] []))
  refine Go.step (fun _ k => XS.iloadN X1.here hx rfl (hb hby d3_10) rfl k) ?_
  show Go _ _ _ _ (T1.setTop (mkF m 11 #[.val (.ref o), .val (.ref tl), .val (.int (Int32.ofNat 1)), .val (.int (0 : Int32)), .unset] [(.int (0 : Int32))]))
  refine Go.step (fun _ k => XS.iloadN X1.here hx rfl (hb hby d3_11) rfl k) ?_
  show Go _ _ _ _ (T1.setTop (mkF m 12 #[.val (.ref o), .val (.ref tl), .val (.int (Int32.ofNat 1)), .val (.int (0 : Int32)), .unset] [(.int (Int32.ofNat 1)), (.int (0 : Int32))]))
  refine Go.step (fun _ k => XS.icmpNo X1.here hx rfl (hb hby d3_12) rfl (tlt (show ((0 : Int32) < (Int32.ofNat 1)) from (by decide : ((0 : Int32) < (Int32.ofNat 1))))).2.1 k) ?_
  show Go _ _ _ _ (T1.setTop (mkF m 15 #[.val (.ref o), .val (.ref tl), .val (.int (Int32.ofNat 1)), .val (.int (0 : Int32)), .unset] []))
  refine Go.step (fun _ k => XS.aloadN X1.here hx rfl (hb hby d3_15) rfl rfl k) ?_
  show Go _ _ _ _ (T1.setTop (mkF m 16 #[.val (.ref o), .val (.ref tl), .val (.int (Int32.ofNat 1)), .val (.int (0 : Int32)), .unset] [(.ref tl)]))
  refine Go.step (fun _ k => XS.iloadN X1.here hx rfl (hb hby d3_16) rfl k) ?_
  show Go _ _ _ _ (T1.setTop (mkF m 17 #[.val (.ref o), .val (.ref tl), .val (.int (Int32.ofNat 1)), .val (.int (0 : Int32)), .unset] [(.int (0 : Int32)), (.ref tl)]))
  refine Go.step (fun tg k => X1.aaload hx (j := (0 : Int32)) (v := (.ref t0)) (by rw [e1]; exact AT.1) (State.isArrayOf_alike hZ.alike AT.2.1) rfl AT.2.2 (own_in (i := 0) (by omega) (by omega)) hc0 (g := (mkF m 17 #[.val (.ref o), .val (.ref tl), .val (.int (Int32.ofNat 1)), .val (.int (0 : Int32)), .unset] [(.int (0 : Int32)), (.ref tl)])) rfl rfl (hb hby d3_17) tg k) ?_
  show Go _ _ _ _ (T1.setTop (mkF m 18 #[.val (.ref o), .val (.ref tl), .val (.int (Int32.ofNat 1)), .val (.int (0 : Int32)), .unset] [(.ref t0)]))
  refine Go.step (fun _ k => XS.astore X1.here hx rfl (hb hby d3_18) rfl rfl (l' := #[.val (.ref o), .val (.ref tl), .val (.int (Int32.ofNat 1)), .val (.int (0 : Int32)), .val (.ref t0)]) rfl k) ?_
  show Go _ _ _ _ (T1.setTop (mkF m 20 #[.val (.ref o), .val (.ref tl), .val (.int (Int32.ofNat 1)), .val (.int (0 : Int32)), .val (.ref t0)] []))
  refine Go.step (fun _ k => XS.aload X1.here hx rfl (hb hby d3_20) rfl rfl k) ?_
  show Go _ _ _ _ (T1.setTop (mkF m 22 #[.val (.ref o), .val (.ref tl), .val (.int (Int32.ofNat 1)), .val (.int (0 : Int32)), .val (.ref t0)] [(.ref t0)]))
  refine Go.step (fun _ k => XS.lconst X1.here hx rfl (hb hby d3_22) k) ?_
  show Go _ _ _ _ (T1.setTop (mkF m 23 #[.val (.ref o), .val (.ref tl), .val (.int (Int32.ofNat 1)), .val (.int (0 : Int32)), .val (.ref t0)] [(.long (0 : Int64)), (.ref t0)]))
  refine goS X1 hx hZ hown (hw _ (List.mem_of_getElem? (i := 23) rfl)) (hw _ (List.mem_of_getElem? (i := 24) rfl)) (hw _ (List.mem_of_getElem? (i := 25) rfl)) (hw _ (List.mem_of_getElem? (i := 26) rfl)) (by decide) (rm4 l Z a0 hw [] h0 t0 N (by omega) HL n0 gt0) e1 (by rw [hml]; rfl) [.ref t0, .long (0 : Int64)] [] rfl pd4 rfl rfl 0 rfl (hb hby d3_23) (by decide) (by decide) (by decide) (by decide) fun T2 L2 v2 q2 X2 => ?_
  obtain ⟨rfl, N2, K2, P2⟩ := q2
  have E_2 := E0.keep K2
  have FL_2 := FL.keep K2 (ninS ne1 nin0)
  have AT_2 : Arr Z T2.heap tl cT (.array .long) := ⟨K2.2.1 _ _ AT.1 (ninS ne2 nin0), AT.2⟩
  have KK_2 : Keep h0 T2.heap [t0] := (Keep.refl h0 [t0]).trans K2 (by intro x hx; simp at hx; subst hx; exact Or.inl (by simp))
  have NN_2 := Fr.app (Fr.nil n0) N2
  show Go _ _ _ _ (T2.setTop (mkF m 26 #[.val (.ref o), .val (.ref tl), .val (.int (Int32.ofNat 1)), .val (.int (0 : Int32)), .val (.ref t0)] []))
  refine Go.step (fun _ k => XS.iinc X2.here hx rfl (hb hby d3_26) rfl (l' := #[.val (.ref o), .val (.ref tl), .val (.int (Int32.ofNat 1)), .val (.int (1 : Int32)), .val (.ref t0)]) rfl k) ?_
  show Go _ _ _ _ (T2.setTop (mkF m 29 #[.val (.ref o), .val (.ref tl), .val (.int (Int32.ofNat 1)), .val (.int (1 : Int32)), .val (.ref t0)] []))
  refine Go.step (fun _ k => XS.goto X2.here hx rfl (pc0 := 29) (pc' := 10) rfl (hb hby d3_29) (by decide) (by decide) k) ?_
  show Go _ _ _ _ (T2.setTop (mkF m 10 #[.val (.ref o), .val (.ref tl), .val (.int (Int32.ofNat 1)), .val (.int (1 : Int32)), .val (.ref t0)] []))
  refine Go.step (fun _ k => XS.iloadN X2.here hx rfl (hb hby d3_10) rfl k) ?_
  show Go _ _ _ _ (T2.setTop (mkF m 11 #[.val (.ref o), .val (.ref tl), .val (.int (Int32.ofNat 1)), .val (.int (1 : Int32)), .val (.ref t0)] [(.int (1 : Int32))]))
  refine Go.step (fun _ k => XS.iloadN X2.here hx rfl (hb hby d3_11) rfl k) ?_
  show Go _ _ _ _ (T2.setTop (mkF m 12 #[.val (.ref o), .val (.ref tl), .val (.int (Int32.ofNat 1)), .val (.int (1 : Int32)), .val (.ref t0)] [(.int (Int32.ofNat 1)), (.int (1 : Int32))]))
  refine Go.step (fun _ k => XS.icmpYes X2.here hx rfl (pc0 := 12) (pc' := 32) rfl (hb hby d3_12) rfl (flt (show ¬ ((1 : Int32) < (Int32.ofNat 1)) from (by decide : ¬ ((1 : Int32) < (Int32.ofNat 1))))).2.1 (by decide) (by decide) k) ?_
  show Go _ _ _ _ (T2.setTop (mkF m 32 #[.val (.ref o), .val (.ref tl), .val (.int (Int32.ofNat 1)), .val (.int (1 : Int32)), .val (.ref t0)] []))
  refine Go.step (fun _ k => XS.iconst X2.here hx rfl (hb hby d3_32) k) ?_
  show Go _ _ _ _ (T2.setTop (mkF m 33 #[.val (.ref o), .val (.ref tl), .val (.int (Int32.ofNat 1)), .val (.int (1 : Int32)), .val (.ref t0)] [(.int (1 : Int32))]))
  refine Go.step (fun _ k => XS.istoreN X2.here hx rfl (hb hby d3_33) rfl (l' := #[.val (.ref o), .val (.int (1 : Int32)), .val (.int (Int32.ofNat 1)), .val (.int (1 : Int32)), .val (.ref t0)]) rfl k) ?_
  show Go _ _ _ _ (T2.setTop (mkF m 34 #[.val (.ref o), .val (.int (1 : Int32)), .val (.int (Int32.ofNat 1)), .val (.int (1 : Int32)), .val (.ref t0)] []))
  refine Go.step (fun _ k => XS.iloadN X2.here hx rfl (hb hby d3_34) rfl k) ?_
  show Go _ _ _ _ (T2.setTop (mkF m 35 #[.val (.ref o), .val (.int (1 : Int32)), .val (.int (Int32.ofNat 1)), .val (.int (1 : Int32)), .val (.ref t0)] [(.int (1 : Int32))]))
  refine Go.step (fun _ k => XS.aloadN X2.here hx rfl (hb hby d3_35) rfl rfl k) ?_
  show Go _ _ _ _ (T2.setTop (mkF m 36 #[.val (.ref o), .val (.int (1 : Int32)), .val (.int (Int32.ofNat 1)), .val (.int (1 : Int32)), .val (.ref t0)] [(.ref o), (.int (1 : Int32))]))
  obtain ⟨T3, X3, e3, st3⟩ := getF X2 hx hZ hown (host := "") (Or.inl (hw _ (List.mem_of_getElem? (i := 14) rfl))) Via.refl rfl FL_2 (g := (mkF m 36 #[.val (.ref o), .val (.int (1 : Int32)), .val (.int (Int32.ofNat 1)), .val (.int (1 : Int32)), .val (.ref t0)] [(.ref o), (.int (1 : Int32))])) rfl rfl (hb hby d3_36)
  refine Go.step st3 ?_
  show Go _ _ _ _ (T3.setTop (mkF m 39 #[.val (.ref o), .val (.int (1 : Int32)), .val (.int (Int32.ofNat 1)), .val (.int (1 : Int32)), .val (.ref t0)] [(.ref tl), (.int (1 : Int32))]))
  refine Go.step (fun tg k => X3.arraylength hx (by rw [e3]; exact AT_2.1) (State.isArrayOf_alike hZ.alike AT_2.2.1) (g := (mkF m 39 #[.val (.ref o), .val (.int (1 : Int32)), .val (.int (Int32.ofNat 1)), .val (.int (1 : Int32)), .val (.ref t0)] [(.ref tl), (.int (1 : Int32))])) rfl rfl (hb hby d3_39) tg k) ?_
  rw [hsz]
  show Go _ _ _ _ (T3.setTop (mkF m 40 #[.val (.ref o), .val (.int (1 : Int32)), .val (.int (Int32.ofNat 1)), .val (.int (1 : Int32)), .val (.ref t0)] [(.int (Int32.ofNat 1)), (.int (1 : Int32))]))
  refine Go.step (fun _ k => XS.icmpYes X3.here hx rfl (pc0 := 40) (pc' := 87) rfl (hb hby d3_40) rfl (flt (show ¬ ((1 : Int32) < (Int32.ofNat 1)) from (by decide : ¬ ((1 : Int32) < (Int32.ofNat 1))))).2.1 (by decide) (by decide) k) ?_
  show Go _ _ _ _ (T3.setTop (mkF m 87 #[.val (.ref o), .val (.int (1 : Int32)), .val (.int (Int32.ofNat 1)), .val (.int (1 : Int32)), .val (.ref t0)] []))
  exact leafV X3 hx hret hlk (hb hby d3_87) ⟨rfl, NN_2, by rw [e3]; exact KK_2, by rw [e3]; exact P2⟩ (by decide) (by decide)
set_option maxRecDepth 65536 in
set_option maxHeartbeats 40000000 in
theorem rmCl2 (l : Launch) (Z : State) (a0 : Array Value) (hw : ∀ d ∈ tables_1, d.before a0 Z = true) (ws : List Jvm.Cond)  (h0 : Heap) (o tl t0 t1 : Addr) (N : Nat) (cT : Cell) (hsz : cT.slots.size = 2) (hc0 : cT.slots[0]? = some (.ref t0)) (hc1 : cT.slots[1]? = some (.ref t1)) (HL1 : Lv Z h0 t1 1 (fun _ => false)) (E0 : Exa Z h0 o "com/example/prefix_scope/prefixscope/NumberSet") (FL : Fld Z h0 o "com/example/prefix_scope/prefixscope/NumberSet" "levels" "[[J" (.ref tl)) (AT : Arr Z h0 tl cT (.array .long)) (HL : Lv Z h0 t0 N (fun _ => false)) (hN : N ≤ 4) (hN2 : 1 < N) (n0 : Nat) (gt0 : n0 ≤ t0) (gt1 : n0 ≤ t1) (ne1 : o ≠ t0) (ne2 : tl ≠ t0) (ne3 : o ≠ t1) (ne4 : tl ≠ t1) (ne5 : t0 ≠ t1) : Con l Z (⟨"com/example/prefix_scope/prefixscope/NumberSet", "clear", "()V"⟩ : MethodName) prog_9_method_6_code 5 none ws ({ frames := 1, cells := 0, slots := 0, locals := 19 } : Room) #[(.ref o)] h0 (fun v h L => v = none ∧ Fr n0 L ∧ Keep h0 h [t0, t1] ∧ Lv Z h t0 N (fun _ => false) ∧ Lv Z h t1 1 (fun j => decide (N ≤ j))) := by
  refine Con.of pn3 fun p e s m below meth c s₁ hZ hx hby hml hown hret hlk hnm X0 e0 => ?_
  rw [ef3]
  show Go _ _ _ _ (s₁.setTop (mkF m 0 #[.val (.ref o), .unset, .unset, .unset, .unset] []))
  refine Go.step (fun _ k => XS.aloadN X0.here hx rfl (hb hby d3_0) rfl rfl k) ?_
  show Go _ _ _ _ (s₁.setTop (mkF m 1 #[.val (.ref o), .unset, .unset, .unset, .unset] [(.ref o)]))
  obtain ⟨T1, X1, e1, st1⟩ := getF X0 hx hZ hown (host := "") (Or.inl (hw _ (List.mem_of_getElem? (i := 14) rfl))) Via.refl e0 FL (g := (mkF m 1 #[.val (.ref o), .unset, .unset, .unset, .unset] [(.ref o)])) rfl rfl (hb hby d3_1)
  refine Go.step st1 ?_
  show Go _ _ _ _ (T1.setTop (mkF m 4 #[.val (.ref o), .unset, .unset, .unset, .unset] [(.ref tl)]))
  refine Go.step (fun _ k => XS.astoreN X1.here hx rfl (hb hby d3_4) rfl rfl (l' := #[.val (.ref o), .val (.ref tl), .unset, .unset, .unset]) rfl k) ?_
  show Go _ _ _ _ (T1.setTop (mkF m 5 #[.val (.ref o), .val (.ref tl), .unset, .unset, .unset] []))
  refine Go.step (fun _ k => XS.aloadN X1.here hx rfl (hb hby d3_5) rfl rfl k) ?_
  show Go _ _ _ _ (T1.setTop (mkF m 6 #[.val (.ref o), .val (.ref tl), .unset, .unset, .unset] [(.ref tl)]))
  refine Go.step (fun tg k => X1.arraylength hx (by rw [e1]; exact AT.1) (State.isArrayOf_alike hZ.alike AT.2.1) (g := (mkF m 6 #[.val (.ref o), .val (.ref tl), .unset, .unset, .unset] [(.ref tl)])) rfl rfl (hb hby d3_6) tg k) ?_
  rw [hsz]
  show Go _ _ _ _ (T1.setTop (mkF m 7 #[.val (.ref o), .val (.ref tl), .unset, .unset, .unset] [(.int (Int32.ofNat 2))]))
  refine Go.step (fun _ k => XS.istoreN X1.here hx rfl (hb hby d3_7) rfl (l' := #[.val (.ref o), .val (.ref tl), .val (.int (Int32.ofNat 2)), .unset, .unset]) rfl k) ?_
  show Go _ _ _ _ (T1.setTop (mkF m 8 #[.val (.ref o), .val (.ref tl), .val (.int (Int32.ofNat 2)), .unset, .unset] []))
  refine Go.step (fun _ k => XS.iconst X1.here hx rfl (hb hby d3_8) k) ?_
  show Go _ _ _ _ (T1.setTop (mkF m 9 #[.val (.ref o), .val (.ref tl), .val (.int (Int32.ofNat 2)), .unset, .unset] [(.int (0 : Int32))]))
  refine Go.step (fun _ k => XS.istoreN X1.here hx rfl (hb hby d3_9) rfl (l' := #[.val (.ref o), .val (.ref tl), .val (.int (Int32.ofNat 2)), .val (.int (0 : Int32)), .unset]) rfl k) ?_
  show Go _ _ _ _ (T1.setTop (mkF m 10 #[.val (.ref o), .val (.ref tl), .val (.int (Int32.ofNat 2)), .val (.int (0 : Int32)), .unset] []))
  refine Go.step (fun _ k => XS.iloadN X1.here hx rfl (hb hby d3_10) rfl k) ?_
  show Go _ _ _ _ (T1.setTop (mkF m 11 #[.val (.ref o), .val (.ref tl), .val (.int (Int32.ofNat 2)), .val (.int (0 : Int32)), .unset] [(.int (0 : Int32))]))
  refine Go.step (fun _ k => XS.iloadN X1.here hx rfl (hb hby d3_11) rfl k) ?_
  show Go _ _ _ _ (T1.setTop (mkF m 12 #[.val (.ref o), .val (.ref tl), .val (.int (Int32.ofNat 2)), .val (.int (0 : Int32)), .unset] [(.int (Int32.ofNat 2)), (.int (0 : Int32))]))
  refine Go.step (fun _ k => XS.icmpNo X1.here hx rfl (hb hby d3_12) rfl (tlt (show ((0 : Int32) < (Int32.ofNat 2)) from (by decide : ((0 : Int32) < (Int32.ofNat 2))))).2.1 k) ?_
  show Go _ _ _ _ (T1.setTop (mkF m 15 #[.val (.ref o), .val (.ref tl), .val (.int (Int32.ofNat 2)), .val (.int (0 : Int32)), .unset] []))
  refine Go.step (fun _ k => XS.aloadN X1.here hx rfl (hb hby d3_15) rfl rfl k) ?_
  show Go _ _ _ _ (T1.setTop (mkF m 16 #[.val (.ref o), .val (.ref tl), .val (.int (Int32.ofNat 2)), .val (.int (0 : Int32)), .unset] [(.ref tl)]))
  refine Go.step (fun _ k => XS.iloadN X1.here hx rfl (hb hby d3_16) rfl k) ?_
  show Go _ _ _ _ (T1.setTop (mkF m 17 #[.val (.ref o), .val (.ref tl), .val (.int (Int32.ofNat 2)), .val (.int (0 : Int32)), .unset] [(.int (0 : Int32)), (.ref tl)]))
  refine Go.step (fun tg k => X1.aaload hx (j := (0 : Int32)) (v := (.ref t0)) (by rw [e1]; exact AT.1) (State.isArrayOf_alike hZ.alike AT.2.1) rfl AT.2.2 (own_in (i := 0) (by omega) (by omega)) hc0 (g := (mkF m 17 #[.val (.ref o), .val (.ref tl), .val (.int (Int32.ofNat 2)), .val (.int (0 : Int32)), .unset] [(.int (0 : Int32)), (.ref tl)])) rfl rfl (hb hby d3_17) tg k) ?_
  show Go _ _ _ _ (T1.setTop (mkF m 18 #[.val (.ref o), .val (.ref tl), .val (.int (Int32.ofNat 2)), .val (.int (0 : Int32)), .unset] [(.ref t0)]))
  refine Go.step (fun _ k => XS.astore X1.here hx rfl (hb hby d3_18) rfl rfl (l' := #[.val (.ref o), .val (.ref tl), .val (.int (Int32.ofNat 2)), .val (.int (0 : Int32)), .val (.ref t0)]) rfl k) ?_
  show Go _ _ _ _ (T1.setTop (mkF m 20 #[.val (.ref o), .val (.ref tl), .val (.int (Int32.ofNat 2)), .val (.int (0 : Int32)), .val (.ref t0)] []))
  refine Go.step (fun _ k => XS.aload X1.here hx rfl (hb hby d3_20) rfl rfl k) ?_
  show Go _ _ _ _ (T1.setTop (mkF m 22 #[.val (.ref o), .val (.ref tl), .val (.int (Int32.ofNat 2)), .val (.int (0 : Int32)), .val (.ref t0)] [(.ref t0)]))
  refine Go.step (fun _ k => XS.lconst X1.here hx rfl (hb hby d3_22) k) ?_
  show Go _ _ _ _ (T1.setTop (mkF m 23 #[.val (.ref o), .val (.ref tl), .val (.int (Int32.ofNat 2)), .val (.int (0 : Int32)), .val (.ref t0)] [(.long (0 : Int64)), (.ref t0)]))
  refine goS X1 hx hZ hown (hw _ (List.mem_of_getElem? (i := 23) rfl)) (hw _ (List.mem_of_getElem? (i := 24) rfl)) (hw _ (List.mem_of_getElem? (i := 25) rfl)) (hw _ (List.mem_of_getElem? (i := 26) rfl)) (by decide) (rm4 l Z a0 hw [] h0 t0 N (by omega) HL n0 gt0) e1 (by rw [hml]; rfl) [.ref t0, .long (0 : Int64)] [] rfl pd4 rfl rfl 0 rfl (hb hby d3_23) (by decide) (by decide) (by decide) (by decide) fun T2 L2 v2 q2 X2 => ?_
  obtain ⟨rfl, N2, K2, P2⟩ := q2
  have E_2 := E0.keep K2
  have FL_2 := FL.keep K2 (ninS ne1 nin0)
  have AT_2 : Arr Z T2.heap tl cT (.array .long) := ⟨K2.2.1 _ _ AT.1 (ninS ne2 nin0), AT.2⟩
  have P1_2 := HL1.keep K2 (ninS (Ne.symm ne5) nin0)
  have KK_2 : Keep h0 T2.heap [t0, t1] := (Keep.refl h0 [t0, t1]).trans K2 (by intro x hx; simp at hx; subst hx; exact Or.inl (by simp))
  have NN_2 := Fr.app (Fr.nil n0) N2
  show Go _ _ _ _ (T2.setTop (mkF m 26 #[.val (.ref o), .val (.ref tl), .val (.int (Int32.ofNat 2)), .val (.int (0 : Int32)), .val (.ref t0)] []))
  refine Go.step (fun _ k => XS.iinc X2.here hx rfl (hb hby d3_26) rfl (l' := #[.val (.ref o), .val (.ref tl), .val (.int (Int32.ofNat 2)), .val (.int (1 : Int32)), .val (.ref t0)]) rfl k) ?_
  show Go _ _ _ _ (T2.setTop (mkF m 29 #[.val (.ref o), .val (.ref tl), .val (.int (Int32.ofNat 2)), .val (.int (1 : Int32)), .val (.ref t0)] []))
  refine Go.step (fun _ k => XS.goto X2.here hx rfl (pc0 := 29) (pc' := 10) rfl (hb hby d3_29) (by decide) (by decide) k) ?_
  show Go _ _ _ _ (T2.setTop (mkF m 10 #[.val (.ref o), .val (.ref tl), .val (.int (Int32.ofNat 2)), .val (.int (1 : Int32)), .val (.ref t0)] []))
  refine Go.step (fun _ k => XS.iloadN X2.here hx rfl (hb hby d3_10) rfl k) ?_
  show Go _ _ _ _ (T2.setTop (mkF m 11 #[.val (.ref o), .val (.ref tl), .val (.int (Int32.ofNat 2)), .val (.int (1 : Int32)), .val (.ref t0)] [(.int (1 : Int32))]))
  refine Go.step (fun _ k => XS.iloadN X2.here hx rfl (hb hby d3_11) rfl k) ?_
  show Go _ _ _ _ (T2.setTop (mkF m 12 #[.val (.ref o), .val (.ref tl), .val (.int (Int32.ofNat 2)), .val (.int (1 : Int32)), .val (.ref t0)] [(.int (Int32.ofNat 2)), (.int (1 : Int32))]))
  refine Go.step (fun _ k => XS.icmpNo X2.here hx rfl (hb hby d3_12) rfl (tlt (show ((1 : Int32) < (Int32.ofNat 2)) from (by decide : ((1 : Int32) < (Int32.ofNat 2))))).2.1 k) ?_
  show Go _ _ _ _ (T2.setTop (mkF m 15 #[.val (.ref o), .val (.ref tl), .val (.int (Int32.ofNat 2)), .val (.int (1 : Int32)), .val (.ref t0)] []))
  refine Go.step (fun _ k => XS.aloadN X2.here hx rfl (hb hby d3_15) rfl rfl k) ?_
  show Go _ _ _ _ (T2.setTop (mkF m 16 #[.val (.ref o), .val (.ref tl), .val (.int (Int32.ofNat 2)), .val (.int (1 : Int32)), .val (.ref t0)] [(.ref tl)]))
  refine Go.step (fun _ k => XS.iloadN X2.here hx rfl (hb hby d3_16) rfl k) ?_
  show Go _ _ _ _ (T2.setTop (mkF m 17 #[.val (.ref o), .val (.ref tl), .val (.int (Int32.ofNat 2)), .val (.int (1 : Int32)), .val (.ref t0)] [(.int (1 : Int32)), (.ref tl)]))
  refine Go.step (fun tg k => X2.aaload hx (j := (1 : Int32)) (v := (.ref t1)) (by exact AT_2.1) (State.isArrayOf_alike hZ.alike AT_2.2.1) rfl AT_2.2.2 (own_in (i := 1) (by omega) (by omega)) hc1 (g := (mkF m 17 #[.val (.ref o), .val (.ref tl), .val (.int (Int32.ofNat 2)), .val (.int (1 : Int32)), .val (.ref t0)] [(.int (1 : Int32)), (.ref tl)])) rfl rfl (hb hby d3_17) tg k) ?_
  show Go _ _ _ _ (T2.setTop (mkF m 18 #[.val (.ref o), .val (.ref tl), .val (.int (Int32.ofNat 2)), .val (.int (1 : Int32)), .val (.ref t0)] [(.ref t1)]))
  refine Go.step (fun _ k => XS.astore X2.here hx rfl (hb hby d3_18) rfl rfl (l' := #[.val (.ref o), .val (.ref tl), .val (.int (Int32.ofNat 2)), .val (.int (1 : Int32)), .val (.ref t1)]) rfl k) ?_
  show Go _ _ _ _ (T2.setTop (mkF m 20 #[.val (.ref o), .val (.ref tl), .val (.int (Int32.ofNat 2)), .val (.int (1 : Int32)), .val (.ref t1)] []))
  refine Go.step (fun _ k => XS.aload X2.here hx rfl (hb hby d3_20) rfl rfl k) ?_
  show Go _ _ _ _ (T2.setTop (mkF m 22 #[.val (.ref o), .val (.ref tl), .val (.int (Int32.ofNat 2)), .val (.int (1 : Int32)), .val (.ref t1)] [(.ref t1)]))
  refine Go.step (fun _ k => XS.lconst X2.here hx rfl (hb hby d3_22) k) ?_
  show Go _ _ _ _ (T2.setTop (mkF m 23 #[.val (.ref o), .val (.ref tl), .val (.int (Int32.ofNat 2)), .val (.int (1 : Int32)), .val (.ref t1)] [(.long (0 : Int64)), (.ref t1)]))
  refine goS X2 hx hZ hown (hw _ (List.mem_of_getElem? (i := 23) rfl)) (hw _ (List.mem_of_getElem? (i := 24) rfl)) (hw _ (List.mem_of_getElem? (i := 25) rfl)) (hw _ (List.mem_of_getElem? (i := 26) rfl)) (by decide) (rm4 l Z a0 hw [] T2.heap t1 1 (by omega) P1_2 n0 gt1) rfl (by rw [hml]; rfl) [.ref t1, .long (0 : Int64)] [] rfl pd4 rfl rfl 0 rfl (hb hby d3_23) (by decide) (by decide) (by decide) (by decide) fun T3 L3 v3 q3 X3 => ?_
  obtain ⟨rfl, N3, K3, P3⟩ := q3
  have E_3 := E_2.keep K3
  have FL_3 := FL_2.keep K3 (ninS ne3 nin0)
  have AT_3 : Arr Z T3.heap tl cT (.array .long) := ⟨K3.2.1 _ _ AT_2.1 (ninS ne4 nin0), AT_2.2⟩
  have P0_3 := P2.keep K3 (ninS ne5 nin0)
  have KK_3 : Keep h0 T3.heap [t0, t1] := KK_2.trans K3 (by intro x hx; simp at hx; subst hx; exact Or.inl (by simp))
  have NN_3 := Fr.app NN_2 N3
  show Go _ _ _ _ (T3.setTop (mkF m 26 #[.val (.ref o), .val (.ref tl), .val (.int (Int32.ofNat 2)), .val (.int (1 : Int32)), .val (.ref t1)] []))
  refine Go.step (fun _ k => XS.iinc X3.here hx rfl (hb hby d3_26) rfl (l' := #[.val (.ref o), .val (.ref tl), .val (.int (Int32.ofNat 2)), .val (.int (2 : Int32)), .val (.ref t1)]) rfl k) ?_
  show Go _ _ _ _ (T3.setTop (mkF m 29 #[.val (.ref o), .val (.ref tl), .val (.int (Int32.ofNat 2)), .val (.int (2 : Int32)), .val (.ref t1)] []))
  refine Go.step (fun _ k => XS.goto X3.here hx rfl (pc0 := 29) (pc' := 10) rfl (hb hby d3_29) (by decide) (by decide) k) ?_
  show Go _ _ _ _ (T3.setTop (mkF m 10 #[.val (.ref o), .val (.ref tl), .val (.int (Int32.ofNat 2)), .val (.int (2 : Int32)), .val (.ref t1)] []))
  refine Go.step (fun _ k => XS.iloadN X3.here hx rfl (hb hby d3_10) rfl k) ?_
  show Go _ _ _ _ (T3.setTop (mkF m 11 #[.val (.ref o), .val (.ref tl), .val (.int (Int32.ofNat 2)), .val (.int (2 : Int32)), .val (.ref t1)] [(.int (2 : Int32))]))
  refine Go.step (fun _ k => XS.iloadN X3.here hx rfl (hb hby d3_11) rfl k) ?_
  show Go _ _ _ _ (T3.setTop (mkF m 12 #[.val (.ref o), .val (.ref tl), .val (.int (Int32.ofNat 2)), .val (.int (2 : Int32)), .val (.ref t1)] [(.int (Int32.ofNat 2)), (.int (2 : Int32))]))
  refine Go.step (fun _ k => XS.icmpYes X3.here hx rfl (pc0 := 12) (pc' := 32) rfl (hb hby d3_12) rfl (flt (show ¬ ((2 : Int32) < (Int32.ofNat 2)) from (by decide : ¬ ((2 : Int32) < (Int32.ofNat 2))))).2.1 (by decide) (by decide) k) ?_
  show Go _ _ _ _ (T3.setTop (mkF m 32 #[.val (.ref o), .val (.ref tl), .val (.int (Int32.ofNat 2)), .val (.int (2 : Int32)), .val (.ref t1)] []))
  refine Go.step (fun _ k => XS.iconst X3.here hx rfl (hb hby d3_32) k) ?_
  show Go _ _ _ _ (T3.setTop (mkF m 33 #[.val (.ref o), .val (.ref tl), .val (.int (Int32.ofNat 2)), .val (.int (2 : Int32)), .val (.ref t1)] [(.int (1 : Int32))]))
  refine Go.step (fun _ k => XS.istoreN X3.here hx rfl (hb hby d3_33) rfl (l' := #[.val (.ref o), .val (.int (1 : Int32)), .val (.int (Int32.ofNat 2)), .val (.int (2 : Int32)), .val (.ref t1)]) rfl k) ?_
  show Go _ _ _ _ (T3.setTop (mkF m 34 #[.val (.ref o), .val (.int (1 : Int32)), .val (.int (Int32.ofNat 2)), .val (.int (2 : Int32)), .val (.ref t1)] []))
  refine Go.step (fun _ k => XS.iloadN X3.here hx rfl (hb hby d3_34) rfl k) ?_
  show Go _ _ _ _ (T3.setTop (mkF m 35 #[.val (.ref o), .val (.int (1 : Int32)), .val (.int (Int32.ofNat 2)), .val (.int (2 : Int32)), .val (.ref t1)] [(.int (1 : Int32))]))
  refine Go.step (fun _ k => XS.aloadN X3.here hx rfl (hb hby d3_35) rfl rfl k) ?_
  show Go _ _ _ _ (T3.setTop (mkF m 36 #[.val (.ref o), .val (.int (1 : Int32)), .val (.int (Int32.ofNat 2)), .val (.int (2 : Int32)), .val (.ref t1)] [(.ref o), (.int (1 : Int32))]))
  obtain ⟨T4, X4, e4, st4⟩ := getF X3 hx hZ hown (host := "") (Or.inl (hw _ (List.mem_of_getElem? (i := 14) rfl))) Via.refl rfl FL_3 (g := (mkF m 36 #[.val (.ref o), .val (.int (1 : Int32)), .val (.int (Int32.ofNat 2)), .val (.int (2 : Int32)), .val (.ref t1)] [(.ref o), (.int (1 : Int32))])) rfl rfl (hb hby d3_36)
  refine Go.step st4 ?_
  show Go _ _ _ _ (T4.setTop (mkF m 39 #[.val (.ref o), .val (.int (1 : Int32)), .val (.int (Int32.ofNat 2)), .val (.int (2 : Int32)), .val (.ref t1)] [(.ref tl), (.int (1 : Int32))]))
  refine Go.step (fun tg k => X4.arraylength hx (by rw [e4]; exact AT_3.1) (State.isArrayOf_alike hZ.alike AT_3.2.1) (g := (mkF m 39 #[.val (.ref o), .val (.int (1 : Int32)), .val (.int (Int32.ofNat 2)), .val (.int (2 : Int32)), .val (.ref t1)] [(.ref tl), (.int (1 : Int32))])) rfl rfl (hb hby d3_39) tg k) ?_
  rw [hsz]
  show Go _ _ _ _ (T4.setTop (mkF m 40 #[.val (.ref o), .val (.int (1 : Int32)), .val (.int (Int32.ofNat 2)), .val (.int (2 : Int32)), .val (.ref t1)] [(.int (Int32.ofNat 2)), (.int (1 : Int32))]))
  refine Go.step (fun _ k => XS.icmpNo X4.here hx rfl (hb hby d3_40) rfl (tlt (show ((1 : Int32) < (Int32.ofNat 2)) from (by decide : ((1 : Int32) < (Int32.ofNat 2))))).2.1 k) ?_
  show Go _ _ _ _ (T4.setTop (mkF m 43 #[.val (.ref o), .val (.int (1 : Int32)), .val (.int (Int32.ofNat 2)), .val (.int (2 : Int32)), .val (.ref t1)] []))
  refine Go.step (fun _ k => XS.aloadN X4.here hx rfl (hb hby d3_43) rfl rfl k) ?_
  show Go _ _ _ _ (T4.setTop (mkF m 44 #[.val (.ref o), .val (.int (1 : Int32)), .val (.int (Int32.ofNat 2)), .val (.int (2 : Int32)), .val (.ref t1)] [(.ref o)]))
  obtain ⟨T5, X5, e5, st5⟩ := getF X4 hx hZ hown (host := "") (Or.inl (hw _ (List.mem_of_getElem? (i := 14) rfl))) Via.refl e4 FL_3 (g := (mkF m 44 #[.val (.ref o), .val (.int (1 : Int32)), .val (.int (Int32.ofNat 2)), .val (.int (2 : Int32)), .val (.ref t1)] [(.ref o)])) rfl rfl (hb hby d3_44)
  refine Go.step st5 ?_
  show Go _ _ _ _ (T5.setTop (mkF m 47 #[.val (.ref o), .val (.int (1 : Int32)), .val (.int (Int32.ofNat 2)), .val (.int (2 : Int32)), .val (.ref t1)] [(.ref tl)]))
  refine Go.step (fun _ k => XS.iloadN X5.here hx rfl (hb hby d3_47) rfl k) ?_
  show Go _ _ _ _ (T5.setTop (mkF m 48 #[.val (.ref o), .val (.int (1 : Int32)), .val (.int (Int32.ofNat 2)), .val (.int (2 : Int32)), .val (.ref t1)] [(.int (1 : Int32)), (.ref tl)]))
  refine Go.step (fun tg k => X5.aaload hx (j := (1 : Int32)) (v := (.ref t1)) (by rw [e5]; exact AT_3.1) (State.isArrayOf_alike hZ.alike AT_3.2.1) rfl AT_3.2.2 (own_in (i := 1) (by omega) (by omega)) hc1 (g := (mkF m 48 #[.val (.ref o), .val (.int (1 : Int32)), .val (.int (Int32.ofNat 2)), .val (.int (2 : Int32)), .val (.ref t1)] [(.int (1 : Int32)), (.ref tl)])) rfl rfl (hb hby d3_48) tg k) ?_
  show Go _ _ _ _ (T5.setTop (mkF m 49 #[.val (.ref o), .val (.int (1 : Int32)), .val (.int (Int32.ofNat 2)), .val (.int (2 : Int32)), .val (.ref t1)] [(.ref t1)]))
  obtain ⟨c1, A1, S1, H1⟩ := id P3
  refine Go.step (fun tg k => X5.arraylength hx (by rw [e5]; exact A1.1) (State.isArrayOf_alike hZ.alike A1.2.1) (g := (mkF m 49 #[.val (.ref o), .val (.int (1 : Int32)), .val (.int (Int32.ofNat 2)), .val (.int (2 : Int32)), .val (.ref t1)] [(.ref t1)])) rfl rfl (hb hby d3_49) tg k) ?_
  rw [S1]
  show Go _ _ _ _ (T5.setTop (mkF m 50 #[.val (.ref o), .val (.int (1 : Int32)), .val (.int (Int32.ofNat 2)), .val (.int (2 : Int32)), .val (.ref t1)] [(.int (Int32.ofNat 1))]))
  refine Go.step (fun _ k => XS.bipush X5.here hx rfl (hb hby d3_50) k) ?_
  show Go _ _ _ _ (T5.setTop (mkF m 52 #[.val (.ref o), .val (.int (1 : Int32)), .val (.int (Int32.ofNat 2)), .val (.int (2 : Int32)), .val (.ref t1)] [(.int (6 : Int32)), (.int (Int32.ofNat 1))]))
  refine Go.step (fun _ k => XS.ishl X5.here hx rfl (hb hby d3_52) rfl k) ?_
  rw [own_shl6 (by omega)]
  show Go _ _ _ _ (T5.setTop (mkF m 53 #[.val (.ref o), .val (.int (1 : Int32)), .val (.int (Int32.ofNat 2)), .val (.int (2 : Int32)), .val (.ref t1)] [(.int (Int32.ofNat 64))]))
  refine Go.step (fun _ k => XS.istoreN X5.here hx rfl (hb hby d3_53) rfl (l' := #[.val (.ref o), .val (.int (1 : Int32)), .val (.int (Int32.ofNat 64)), .val (.int (2 : Int32)), .val (.ref t1)]) rfl k) ?_
  show Go _ _ _ _ (T5.setTop (mkF m 54 #[.val (.ref o), .val (.int (1 : Int32)), .val (.int (Int32.ofNat 64)), .val (.int (2 : Int32)), .val (.ref t1)] []))
  refine Go.step (fun _ k => XS.aloadN X5.here hx rfl (hb hby d3_54) rfl rfl k) ?_
  show Go _ _ _ _ (T5.setTop (mkF m 55 #[.val (.ref o), .val (.int (1 : Int32)), .val (.int (Int32.ofNat 64)), .val (.int (2 : Int32)), .val (.ref t1)] [(.ref o)]))
  obtain ⟨T6, X6, e6, st6⟩ := getF X5 hx hZ hown (host := "") (Or.inl (hw _ (List.mem_of_getElem? (i := 14) rfl))) Via.refl e5 FL_3 (g := (mkF m 55 #[.val (.ref o), .val (.int (1 : Int32)), .val (.int (Int32.ofNat 64)), .val (.int (2 : Int32)), .val (.ref t1)] [(.ref o)])) rfl rfl (hb hby d3_55)
  refine Go.step st6 ?_
  show Go _ _ _ _ (T6.setTop (mkF m 58 #[.val (.ref o), .val (.int (1 : Int32)), .val (.int (Int32.ofNat 64)), .val (.int (2 : Int32)), .val (.ref t1)] [(.ref tl)]))
  refine Go.step (fun _ k => XS.iloadN X6.here hx rfl (hb hby d3_58) rfl k) ?_
  show Go _ _ _ _ (T6.setTop (mkF m 59 #[.val (.ref o), .val (.int (1 : Int32)), .val (.int (Int32.ofNat 64)), .val (.int (2 : Int32)), .val (.ref t1)] [(.int (1 : Int32)), (.ref tl)]))
  refine Go.step (fun _ k => XS.iconst X6.here hx rfl (hb hby d3_59) k) ?_
  show Go _ _ _ _ (T6.setTop (mkF m 60 #[.val (.ref o), .val (.int (1 : Int32)), .val (.int (Int32.ofNat 64)), .val (.int (2 : Int32)), .val (.ref t1)] [(.int (1 : Int32)), (.int (1 : Int32)), (.ref tl)]))
  refine Go.step (fun _ k => XS.isub X6.here hx rfl (hb hby d3_60) rfl k) ?_
  show Go _ _ _ _ (T6.setTop (mkF m 61 #[.val (.ref o), .val (.int (1 : Int32)), .val (.int (Int32.ofNat 64)), .val (.int (2 : Int32)), .val (.ref t1)] [(.int (0 : Int32)), (.ref tl)]))
  refine Go.step (fun tg k => X6.aaload hx (j := (0 : Int32)) (v := (.ref t0)) (by rw [e6]; exact AT_3.1) (State.isArrayOf_alike hZ.alike AT_3.2.1) rfl AT_3.2.2 (own_in (i := 0) (by omega) (by omega)) hc0 (g := (mkF m 61 #[.val (.ref o), .val (.int (1 : Int32)), .val (.int (Int32.ofNat 64)), .val (.int (2 : Int32)), .val (.ref t1)] [(.int (0 : Int32)), (.ref tl)])) rfl rfl (hb hby d3_61) tg k) ?_
  show Go _ _ _ _ (T6.setTop (mkF m 62 #[.val (.ref o), .val (.int (1 : Int32)), .val (.int (Int32.ofNat 64)), .val (.int (2 : Int32)), .val (.ref t1)] [(.ref t0)]))
  obtain ⟨c0, A0, S0, H0⟩ := id P0_3
  refine Go.step (fun tg k => X6.arraylength hx (by rw [e6]; exact A0.1) (State.isArrayOf_alike hZ.alike A0.2.1) (g := (mkF m 62 #[.val (.ref o), .val (.int (1 : Int32)), .val (.int (Int32.ofNat 64)), .val (.int (2 : Int32)), .val (.ref t1)] [(.ref t0)])) rfl rfl (hb hby d3_62) tg k) ?_
  rw [S0]
  show Go _ _ _ _ (T6.setTop (mkF m 63 #[.val (.ref o), .val (.int (1 : Int32)), .val (.int (Int32.ofNat 64)), .val (.int (2 : Int32)), .val (.ref t1)] [(.int (Int32.ofNat N))]))
  refine Go.step (fun _ k => XS.istoreN X6.here hx rfl (hb hby d3_63) rfl (l' := #[.val (.ref o), .val (.int (1 : Int32)), .val (.int (Int32.ofNat 64)), .val (.int (Int32.ofNat N)), .val (.ref t1)]) rfl k) ?_
  show Go _ _ _ _ (T6.setTop (mkF m 64 #[.val (.ref o), .val (.int (1 : Int32)), .val (.int (Int32.ofNat 64)), .val (.int (Int32.ofNat N)), .val (.ref t1)] []))
  exact loopC l hx hZ hw hby hml hown hret hlk n0 h0 o tl t0 t1 N cT hsz hc0 hc1 gt0 gt1 ne1 ne2 ne3 ne4 ne5 hN hN2 (64 - N) N T6 _ _ (by omega) (Nat.le_refl _) X6 e6 NN_3 KK_3 E_3 FL_3 AT_3 P0_3 (P3.alike fun y hy => decide_eq_false (by omega))

def Obj (Z : State) (h : Heap) (o : Addr) (N : Nat) (g : Nat → Bool) (n0 : Nat) : Prop := ∃ (tl t0 : Addr) (cT : Cell), Exa Z h o "com/example/prefix_scope/prefixscope/NumberSet" ∧ Fld Z h o "com/example/prefix_scope/prefixscope/NumberSet" "capacity" "I" (.int (Int32.ofNat (64 * N))) ∧ Fld Z h o "com/example/prefix_scope/prefixscope/NumberSet" "levels" "[[J" (.ref tl) ∧ Arr Z h tl cT (.array .long) ∧ cT.slots[0]? = some (.ref t0) ∧ Lv Z h t0 N g ∧ n0 ≤ t0 ∧ o ≠ t0 ∧ tl ≠ t0 ∧
  ((cT.slots.size = 1 ∧ N = 1) ∨ (cT.slots.size = 2 ∧ 1 < N ∧ ∃ t1, cT.slots[1]? = some (.ref t1) ∧ t1 ≠ t0 ∧ Lv Z h t1 1 (fun j => decide (N ≤ j))))
theorem Lv.fresh {Z : State} {h : Heap} {t : Addr} {M : Nat} {k : ClassId} {z : Int32} (A : Arr Z h t (newA k .long z) .long) (hz : z.toNatClampNeg = M) : Lv Z h t M (fun _ => false) := by
  refine ⟨_, A, by rw [sz_new]; exact hz, fun w hw => ⟨0, ?_, fun j _ => own_zb j⟩⟩
  subst hz
  simp [newA, hw, defaultValue]
theorem Obj.put {Z : State} {h h' : Heap} {o tl t0 : Addr} {N : Nat} {g' : Nat → Bool} {n0 : Nat} {cT : Cell} (E : Exa Z h o "com/example/prefix_scope/prefixscope/NumberSet") (FC : Fld Z h o "com/example/prefix_scope/prefixscope/NumberSet" "capacity" "I" (.int (Int32.ofNat (64 * N)))) (FL : Fld Z h o "com/example/prefix_scope/prefixscope/NumberSet" "levels" "[[J" (.ref tl)) (AT : Arr Z h tl cT (.array .long)) (hc0 : cT.slots[0]? = some (.ref t0)) (g0 : n0 ≤ t0) (n1 : o ≠ t0) (n2 : tl ≠ t0)
    (D : (cT.slots.size = 1 ∧ N = 1) ∨ (cT.slots.size = 2 ∧ 1 < N ∧ ∃ t1, cT.slots[1]? = some (.ref t1) ∧ t1 ≠ t0 ∧ Lv Z h t1 1 (fun j => decide (N ≤ j)))) (K : Keep h h' [t0]) (P : Lv Z h' t0 N g') : Obj Z h' o N g' n0 := by
  refine ⟨tl, t0, cT, E.keep K, FC.keep K (ninS n1 nin0), FL.keep K (ninS n1 nin0), ⟨K.2.1 _ _ AT.1 (ninS n2 nin0), AT.2⟩, hc0, P, g0, n1, n2, ?_⟩
  rcases D with D | ⟨d1, d2, t1, d3, d4, d5⟩
  · exact Or.inl D
  · exact Or.inr ⟨d1, d2, t1, d3, d4, d5.keep K (ninS d4 nin0)⟩

theorem d1_0 : decode prog_9_method_1_code 0 = .ok (.aload_n 0, 1) := by decide +kernel
theorem d1_1 : decode prog_9_method_1_code 1 = .ok (.invokespecial 1, 3) := by decide +kernel
theorem d1_4 : decode prog_9_method_1_code 4 = .ok (.iload_n 1, 1) := by decide +kernel
theorem d1_5 : decode prog_9_method_1_code 5 = .ok (.bipush 63, 2) := by decide +kernel
theorem d1_7 : decode prog_9_method_1_code 7 = .ok (.iadd, 1) := by decide +kernel
theorem d1_8 : decode prog_9_method_1_code 8 = .ok (.bipush 6, 2) := by decide +kernel
theorem d1_10 : decode prog_9_method_1_code 10 = .ok (.iushr, 1) := by decide +kernel
theorem d1_11 : decode prog_9_method_1_code 11 = .ok (.istore_n 2, 1) := by decide +kernel
theorem d1_12 : decode prog_9_method_1_code 12 = .ok (.aload_n 0, 1) := by decide +kernel
theorem d1_13 : decode prog_9_method_1_code 13 = .ok (.iload_n 2, 1) := by decide +kernel
theorem d1_14 : decode prog_9_method_1_code 14 = .ok (.bipush 6, 2) := by decide +kernel
theorem d1_16 : decode prog_9_method_1_code 16 = .ok (.ishl, 1) := by decide +kernel
theorem d1_17 : decode prog_9_method_1_code 17 = .ok (.putfield 7, 3) := by decide +kernel
theorem d1_20 : decode prog_9_method_1_code 20 = .ok (.iconst 1, 1) := by decide +kernel
theorem d1_21 : decode prog_9_method_1_code 21 = .ok (.istore_n 3, 1) := by decide +kernel
theorem d1_22 : decode prog_9_method_1_code 22 = .ok (.iload_n 2, 1) := by decide +kernel
theorem d1_23 : decode prog_9_method_1_code 23 = .ok (.istore 4, 2) := by decide +kernel
theorem d1_25 : decode prog_9_method_1_code 25 = .ok (.iload 4, 2) := by decide +kernel
theorem d1_27 : decode prog_9_method_1_code 27 = .ok (.iconst 1, 1) := by decide +kernel
theorem d1_28 : decode prog_9_method_1_code 28 = .ok (.if_icmp .le 19, 3) := by decide +kernel
theorem d1_31 : decode prog_9_method_1_code 31 = .ok (.iinc 3 1, 3) := by decide +kernel
theorem d1_34 : decode prog_9_method_1_code 34 = .ok (.iload 4, 2) := by decide +kernel
theorem d1_36 : decode prog_9_method_1_code 36 = .ok (.bipush 63, 2) := by decide +kernel
theorem d1_38 : decode prog_9_method_1_code 38 = .ok (.iadd, 1) := by decide +kernel
theorem d1_39 : decode prog_9_method_1_code 39 = .ok (.bipush 6, 2) := by decide +kernel
theorem d1_41 : decode prog_9_method_1_code 41 = .ok (.iushr, 1) := by decide +kernel
theorem d1_42 : decode prog_9_method_1_code 42 = .ok (.istore 4, 2) := by decide +kernel
theorem d1_44 : decode prog_9_method_1_code 44 = .ok (.goto (-19), 3) := by decide +kernel
theorem d1_47 : decode prog_9_method_1_code 47 = .ok (.aload_n 0, 1) := by decide +kernel
theorem d1_48 : decode prog_9_method_1_code 48 = .ok (.iload_n 3, 1) := by decide +kernel
theorem d1_49 : decode prog_9_method_1_code 49 = .ok (.anewarray 13, 3) := by decide +kernel
theorem d1_52 : decode prog_9_method_1_code 52 = .ok (.putfield 15, 3) := by decide +kernel
theorem d1_55 : decode prog_9_method_1_code 55 = .ok (.iconst 0, 1) := by decide +kernel
theorem d1_56 : decode prog_9_method_1_code 56 = .ok (.istore 4, 2) := by decide +kernel
theorem d1_58 : decode prog_9_method_1_code 58 = .ok (.iload 4, 2) := by decide +kernel
theorem d1_60 : decode prog_9_method_1_code 60 = .ok (.iload_n 3, 1) := by decide +kernel
theorem d1_61 : decode prog_9_method_1_code 61 = .ok (.if_icmp .ge 27, 3) := by decide +kernel
theorem d1_64 : decode prog_9_method_1_code 64 = .ok (.aload_n 0, 1) := by decide +kernel
theorem d1_65 : decode prog_9_method_1_code 65 = .ok (.getfield 15, 3) := by decide +kernel
theorem d1_68 : decode prog_9_method_1_code 68 = .ok (.iload 4, 2) := by decide +kernel
theorem d1_70 : decode prog_9_method_1_code 70 = .ok (.iload_n 2, 1) := by decide +kernel
theorem d1_71 : decode prog_9_method_1_code 71 = .ok (.newarray .long, 2) := by decide +kernel
theorem d1_73 : decode prog_9_method_1_code 73 = .ok (.aastore, 1) := by decide +kernel
theorem d1_74 : decode prog_9_method_1_code 74 = .ok (.iload_n 2, 1) := by decide +kernel
theorem d1_75 : decode prog_9_method_1_code 75 = .ok (.bipush 63, 2) := by decide +kernel
theorem d1_77 : decode prog_9_method_1_code 77 = .ok (.iadd, 1) := by decide +kernel
theorem d1_78 : decode prog_9_method_1_code 78 = .ok (.bipush 6, 2) := by decide +kernel
theorem d1_80 : decode prog_9_method_1_code 80 = .ok (.iushr, 1) := by decide +kernel
theorem d1_81 : decode prog_9_method_1_code 81 = .ok (.istore_n 2, 1) := by decide +kernel
theorem d1_82 : decode prog_9_method_1_code 82 = .ok (.iinc 4 1, 3) := by decide +kernel
theorem d1_85 : decode prog_9_method_1_code 85 = .ok (.goto (-27), 3) := by decide +kernel
theorem d1_88 : decode prog_9_method_1_code 88 = .ok (.aload_n 0, 1) := by decide +kernel
theorem d1_89 : decode prog_9_method_1_code 89 = .ok (.invokevirtual 19, 3) := by decide +kernel
theorem d1_92 : decode prog_9_method_1_code 92 = .ok (.return_, 1) := by decide +kernel
theorem pn1 : plainFor (⟨"com/example/prefix_scope/prefixscope/NumberSet", "<init>", "(I)V"⟩ : MethodName) = true := plainFor_of_name (by first | (simp [plainName, overriddenIn]; done) | decide +kernel)
theorem pd1 : parseMethodDescriptor "(I)V" = some ⟨[.int], none⟩ := by decide +kernel
theorem ef1 (m : MethodId) (o : Addr) (x1 : Int32) : entryFrame m #[(.ref o), (.int x1)] 5 = mkF m 0 #[.val (.ref o), .val (.int x1), .unset, .unset, .unset] [] := by first | (simp [entryFrame, mkF, argsToLocals, Value.category]; done) | rfl
set_option maxRecDepth 65536 in
set_option maxHeartbeats 40000000 in
theorem rmC1 (l : Launch) (Z : State) (a0 : Array Value) (hw : ∀ d ∈ tables_1, d.before a0 Z = true) (ws : List Jvm.Cond)  (h0 : Heap) (o : Addr) (n0 : Nat) (Z0 : n0 ≤ h0.size) (g0 : n0 ≤ o) (E0 : Exa Z h0 o "com/example/prefix_scope/prefixscope/NumberSet") (FC0 : Fld Z h0 o "com/example/prefix_scope/prefixscope/NumberSet" "capacity" "I" (.int (0 : Int32))) (FL0 : Fld Z h0 o "com/example/prefix_scope/prefixscope/NumberSet" "levels" "[[J" .null) : Con l Z (⟨"com/example/prefix_scope/prefixscope/NumberSet", "<init>", "(I)V"⟩ : MethodName) prog_9_method_1_code 5 none ws ({ frames := 2, cells := 3, slots := 7, locals := 35 } : Room) #[(.ref o), (.int (64 : Int32))] h0 (fun v h L => v = none ∧ Fr n0 L ∧ Obj Z h o 1 (fun _ => false) n0) := by
  refine Con.of pn1 fun p e s m below meth c s₁ hZ hx hby hml hown hret hlk hnm X0 e0 => ?_
  rw [ef1]
  show Go _ _ _ _ (s₁.setTop (mkF m 0 #[.val (.ref o), .val (.int (64 : Int32)), .unset, .unset, .unset] []))
  refine Go.step (fun _ k => XS.aloadN X0.here hx rfl (hb hby d1_0) rfl rfl k) ?_
  show Go _ _ _ _ (s₁.setTop (mkF m 1 #[.val (.ref o), .val (.int (64 : Int32)), .unset, .unset, .unset] [(.ref o)]))
  obtain ⟨T1, X1, e1, st1⟩ := initO X0 hx hZ hown (hw _ (List.mem_of_getElem? (i := 7) rfl)) (hw _ (List.mem_of_getElem? (i := 8) rfl)) (hw _ (List.mem_of_getElem? (i := 9) rfl)) e0 (g := (mkF m 1 #[.val (.ref o), .val (.int (64 : Int32)), .unset, .unset, .unset] [(.ref o)])) rfl (by rw [hml]; rfl) rfl (hb hby d1_1) (by decide) (W := 0) (by show 2 * 0 + _ ≤ _; exact Nat.le_of_eq rfl) (by decide)
  refine Go.step st1 ?_
  show Go _ _ _ _ (T1.setTop (mkF m 4 #[.val (.ref o), .val (.int (64 : Int32)), .unset, .unset, .unset] []))
  refine Go.step (fun _ k => XS.iloadN X1.here hx rfl (hb hby d1_4) rfl k) ?_
  show Go _ _ _ _ (T1.setTop (mkF m 5 #[.val (.ref o), .val (.int (64 : Int32)), .unset, .unset, .unset] [(.int (64 : Int32))]))
  refine Go.step (fun _ k => XS.bipush X1.here hx rfl (hb hby d1_5) k) ?_
  show Go _ _ _ _ (T1.setTop (mkF m 7 #[.val (.ref o), .val (.int (64 : Int32)), .unset, .unset, .unset] [(.int (63 : Int32)), (.int (64 : Int32))]))
  refine Go.step (fun _ k => XS.iadd X1.here hx rfl (hb hby d1_7) rfl k) ?_
  show Go _ _ _ _ (T1.setTop (mkF m 8 #[.val (.ref o), .val (.int (64 : Int32)), .unset, .unset, .unset] [(.int ((64 : Int32) + (63 : Int32)))]))
  rw [(by decide : ((64 : Int32) + (63 : Int32)) = (127 : Int32))]
  show Go _ _ _ _ (T1.setTop (mkF m 8 #[.val (.ref o), .val (.int (64 : Int32)), .unset, .unset, .unset] [(.int (127 : Int32))]))
  refine Go.step (fun _ k => XS.bipush X1.here hx rfl (hb hby d1_8) k) ?_
  show Go _ _ _ _ (T1.setTop (mkF m 10 #[.val (.ref o), .val (.int (64 : Int32)), .unset, .unset, .unset] [(.int (6 : Int32)), (.int (127 : Int32))]))
  refine Go.step (fun _ k => XS.iushr X1.here hx rfl (hb hby d1_10) rfl k) ?_
  show Go _ _ _ _ (T1.setTop (mkF m 11 #[.val (.ref o), .val (.int (64 : Int32)), .unset, .unset, .unset] [(.int (((127 : Int32).toUInt32 >>> ((6 : Int32) &&& 31).toUInt32).toInt32))]))
  rw [(by decide : (((127 : Int32).toUInt32 >>> ((6 : Int32) &&& 31).toUInt32).toInt32) = (1 : Int32))]
  show Go _ _ _ _ (T1.setTop (mkF m 11 #[.val (.ref o), .val (.int (64 : Int32)), .unset, .unset, .unset] [(.int (1 : Int32))]))
  refine Go.step (fun _ k => XS.istoreN X1.here hx rfl (hb hby d1_11) rfl (l' := #[.val (.ref o), .val (.int (64 : Int32)), .val (.int (1 : Int32)), .unset, .unset]) rfl k) ?_
  show Go _ _ _ _ (T1.setTop (mkF m 12 #[.val (.ref o), .val (.int (64 : Int32)), .val (.int (1 : Int32)), .unset, .unset] []))
  refine Go.step (fun _ k => XS.aloadN X1.here hx rfl (hb hby d1_12) rfl rfl k) ?_
  show Go _ _ _ _ (T1.setTop (mkF m 13 #[.val (.ref o), .val (.int (64 : Int32)), .val (.int (1 : Int32)), .unset, .unset] [(.ref o)]))
  refine Go.step (fun _ k => XS.iloadN X1.here hx rfl (hb hby d1_13) rfl k) ?_
  show Go _ _ _ _ (T1.setTop (mkF m 14 #[.val (.ref o), .val (.int (64 : Int32)), .val (.int (1 : Int32)), .unset, .unset] [(.int (1 : Int32)), (.ref o)]))
  refine Go.step (fun _ k => XS.bipush X1.here hx rfl (hb hby d1_14) k) ?_
  show Go _ _ _ _ (T1.setTop (mkF m 16 #[.val (.ref o), .val (.int (64 : Int32)), .val (.int (1 : Int32)), .unset, .unset] [(.int (6 : Int32)), (.int (1 : Int32)), (.ref o)]))
  refine Go.step (fun _ k => XS.ishl X1.here hx rfl (hb hby d1_16) rfl k) ?_
  show Go _ _ _ _ (T1.setTop (mkF m 17 #[.val (.ref o), .val (.int (64 : Int32)), .val (.int (1 : Int32)), .unset, .unset] [(.int ((1 : Int32) <<< ((6 : Int32) &&& 31))), (.ref o)]))
  rw [(by decide : ((1 : Int32) <<< ((6 : Int32) &&& 31)) = (64 : Int32))]
  show Go _ _ _ _ (T1.setTop (mkF m 17 #[.val (.ref o), .val (.int (64 : Int32)), .val (.int (1 : Int32)), .unset, .unset] [(.int (64 : Int32)), (.ref o)]))
  obtain ⟨T2, h2, X2, e2, W2, st2⟩ := putF X1 hx hZ hown (host := "") (Or.inl (hw _ (List.mem_of_getElem? (i := 10) rfl))) Via.refl e1 FC0 E0 (Or.inr ⟨(hw _ (List.mem_of_getElem? (i := 11) rfl)), rfl, hnm⟩) (hw _ (List.mem_of_getElem? (i := 2) rfl)) (ty := .int) (by decide) rfl rfl (g := (mkF m 17 #[.val (.ref o), .val (.int (64 : Int32)), .val (.int (1 : Int32)), .unset, .unset] [(.int (64 : Int32)), (.ref o)])) rfl rfl (hb hby d1_17)
  have F2_capacity := FC0.same W2
  have F2_levels := FL0.other W2 (Or.inr (slot_ne (Or.inr (hw _ (List.mem_of_getElem? (i := 15) rfl))) (Or.inr (hw _ (List.mem_of_getElem? (i := 11) rfl))) (by decide) (t := (.array (.array .long))) (t' := .int) (by decide) (by decide)))
  have E_2 := E0.wr W2
  have NF2 := Fr.snoc X2 (Fr.nil n0) g0
  refine Go.step st2 ?_
  show Go _ _ _ _ (T2.setTop (mkF m 20 #[.val (.ref o), .val (.int (64 : Int32)), .val (.int (1 : Int32)), .unset, .unset] []))
  refine Go.step (fun _ k => XS.iconst X2.here hx rfl (hb hby d1_20) k) ?_
  show Go _ _ _ _ (T2.setTop (mkF m 21 #[.val (.ref o), .val (.int (64 : Int32)), .val (.int (1 : Int32)), .unset, .unset] [(.int (1 : Int32))]))
  refine Go.step (fun _ k => XS.istoreN X2.here hx rfl (hb hby d1_21) rfl (l' := #[.val (.ref o), .val (.int (64 : Int32)), .val (.int (1 : Int32)), .val (.int (1 : Int32)), .unset]) rfl k) ?_
  show Go _ _ _ _ (T2.setTop (mkF m 22 #[.val (.ref o), .val (.int (64 : Int32)), .val (.int (1 : Int32)), .val (.int (1 : Int32)), .unset] []))
  refine Go.step (fun _ k => XS.iloadN X2.here hx rfl (hb hby d1_22) rfl k) ?_
  show Go _ _ _ _ (T2.setTop (mkF m 23 #[.val (.ref o), .val (.int (64 : Int32)), .val (.int (1 : Int32)), .val (.int (1 : Int32)), .unset] [(.int (1 : Int32))]))
  refine Go.step (fun _ k => XS.istore X2.here hx rfl (hb hby d1_23) rfl (l' := #[.val (.ref o), .val (.int (64 : Int32)), .val (.int (1 : Int32)), .val (.int (1 : Int32)), .val (.int (1 : Int32))]) rfl k) ?_
  show Go _ _ _ _ (T2.setTop (mkF m 25 #[.val (.ref o), .val (.int (64 : Int32)), .val (.int (1 : Int32)), .val (.int (1 : Int32)), .val (.int (1 : Int32))] []))
  refine Go.step (fun _ k => XS.iload X2.here hx rfl (hb hby d1_25) rfl k) ?_
  show Go _ _ _ _ (T2.setTop (mkF m 27 #[.val (.ref o), .val (.int (64 : Int32)), .val (.int (1 : Int32)), .val (.int (1 : Int32)), .val (.int (1 : Int32))] [(.int (1 : Int32))]))
  refine Go.step (fun _ k => XS.iconst X2.here hx rfl (hb hby d1_27) k) ?_
  show Go _ _ _ _ (T2.setTop (mkF m 28 #[.val (.ref o), .val (.int (64 : Int32)), .val (.int (1 : Int32)), .val (.int (1 : Int32)), .val (.int (1 : Int32))] [(.int (1 : Int32)), (.int (1 : Int32))]))
  refine Go.step (fun _ k => XS.icmpYes X2.here hx rfl (pc0 := 28) (pc' := 47) rfl (hb hby d1_28) rfl (flt (by decide : ¬ ((1 : Int32) < (1 : Int32)))).2.2.2 (by decide) (by decide) k) ?_
  show Go _ _ _ _ (T2.setTop (mkF m 47 #[.val (.ref o), .val (.int (64 : Int32)), .val (.int (1 : Int32)), .val (.int (1 : Int32)), .val (.int (1 : Int32))] []))
  refine Go.step (fun _ k => XS.aloadN X2.here hx rfl (hb hby d1_47) rfl rfl k) ?_
  show Go _ _ _ _ (T2.setTop (mkF m 48 #[.val (.ref o), .val (.int (64 : Int32)), .val (.int (1 : Int32)), .val (.int (1 : Int32)), .val (.int (1 : Int32))] [(.ref o)]))
  refine Go.step (fun _ k => XS.iloadN X2.here hx rfl (hb hby d1_48) rfl k) ?_
  show Go _ _ _ _ (T2.setTop (mkF m 49 #[.val (.ref o), .val (.int (64 : Int32)), .val (.int (1 : Int32)), .val (.int (1 : Int32)), .val (.int (1 : Int32))] [(.int (1 : Int32)), (.ref o)]))
  obtain ⟨T3, h3, kT, X3, e3, E3, A_tl, EX_tl, O_tl, st3⟩ := newRA X2 hx hZ hown (C := "[J") (ty := .long) (by decide) (hw _ (List.mem_of_getElem? (i := 12) rfl)) (hw _ (List.mem_of_getElem? (i := 13) rfl)) e2 (g := (mkF m 49 #[.val (.ref o), .val (.int (64 : Int32)), .val (.int (1 : Int32)), .val (.int (1 : Int32)), .val (.int (1 : Int32))] [(.int (1 : Int32)), (.ref o)])) rfl (hb hby d1_49) rfl (by decide) (cap := 1) (by decide) (by decide) (by decide) (by decide) (ad := "[[J") (by decide)
  obtain ⟨tl, gtl⟩ : ∃ z, z = h2.size := ⟨_, rfl⟩
  rw [← gtl] at A_tl EX_tl st3
  have n_tl : o ≠ tl := Nat.ne_of_lt (Nat.lt_of_lt_of_le E_2.lt (Nat.le_of_eq gtl.symm))
  have s_tl : n0 ≤ tl := Nat.le_trans Z0 (Nat.le_trans (Nat.le_of_eq W2.size.symm) (Nat.le_of_eq gtl.symm))
  have FX3_capacity := F2_capacity.ext E3
  have FX3_levels := F2_levels.ext E3
  have EO3 := E_2.ext E3
  refine Go.step st3 ?_
  show Go _ _ _ _ (T3.setTop (mkF m 52 #[.val (.ref o), .val (.int (64 : Int32)), .val (.int (1 : Int32)), .val (.int (1 : Int32)), .val (.int (1 : Int32))] [(.ref tl), (.ref o)]))
  obtain ⟨T4, h4, X4, e4, W4, st4⟩ := putF X3 hx hZ hown (host := "") (Or.inl (hw _ (List.mem_of_getElem? (i := 14) rfl))) Via.refl e3 FX3_levels EO3 (Or.inr ⟨(hw _ (List.mem_of_getElem? (i := 15) rfl)), rfl, hnm⟩) (hw _ (List.mem_of_getElem? (i := 2) rfl)) (ty := (.array (.array .long))) (by decide) rfl rfl (g := (mkF m 52 #[.val (.ref o), .val (.int (64 : Int32)), .val (.int (1 : Int32)), .val (.int (1 : Int32)), .val (.int (1 : Int32))] [(.ref tl), (.ref o)])) rfl rfl (hb hby d1_52)
  have F4_capacity := FX3_capacity.other W4 (Or.inr (slot_ne (Or.inr (hw _ (List.mem_of_getElem? (i := 11) rfl))) (Or.inr (hw _ (List.mem_of_getElem? (i := 15) rfl))) (by decide) (t := .int) (t' := (.array (.array .long))) (by decide) (by decide)))
  have F4_levels := FX3_levels.same W4
  have E_4 := EO3.wr W4
  have NF4 := Fr.snoc X4 NF2 g0
  refine Go.step st4 ?_
  have AT4 := A_tl.other W4 (Ne.symm n_tl)
  show Go _ _ _ _ (T4.setTop (mkF m 55 #[.val (.ref o), .val (.int (64 : Int32)), .val (.int (1 : Int32)), .val (.int (1 : Int32)), .val (.int (1 : Int32))] []))
  refine Go.step (fun _ k => XS.iconst X4.here hx rfl (hb hby d1_55) k) ?_
  show Go _ _ _ _ (T4.setTop (mkF m 56 #[.val (.ref o), .val (.int (64 : Int32)), .val (.int (1 : Int32)), .val (.int (1 : Int32)), .val (.int (1 : Int32))] [(.int (0 : Int32))]))
  refine Go.step (fun _ k => XS.istore X4.here hx rfl (hb hby d1_56) rfl (l' := #[.val (.ref o), .val (.int (64 : Int32)), .val (.int (1 : Int32)), .val (.int (1 : Int32)), .val (.int (0 : Int32))]) rfl k) ?_
  show Go _ _ _ _ (T4.setTop (mkF m 58 #[.val (.ref o), .val (.int (64 : Int32)), .val (.int (1 : Int32)), .val (.int (1 : Int32)), .val (.int (0 : Int32))] []))
  refine Go.step (fun _ k => XS.iload X4.here hx rfl (hb hby d1_58) rfl k) ?_
  show Go _ _ _ _ (T4.setTop (mkF m 60 #[.val (.ref o), .val (.int (64 : Int32)), .val (.int (1 : Int32)), .val (.int (1 : Int32)), .val (.int (0 : Int32))] [(.int (0 : Int32))]))
  refine Go.step (fun _ k => XS.iloadN X4.here hx rfl (hb hby d1_60) rfl k) ?_
  show Go _ _ _ _ (T4.setTop (mkF m 61 #[.val (.ref o), .val (.int (64 : Int32)), .val (.int (1 : Int32)), .val (.int (1 : Int32)), .val (.int (0 : Int32))] [(.int (1 : Int32)), (.int (0 : Int32))]))
  refine Go.step (fun _ k => XS.icmpNo X4.here hx rfl (hb hby d1_61) rfl (tlt (by decide : ((0 : Int32) < (1 : Int32)))).2.1 k) ?_
  show Go _ _ _ _ (T4.setTop (mkF m 64 #[.val (.ref o), .val (.int (64 : Int32)), .val (.int (1 : Int32)), .val (.int (1 : Int32)), .val (.int (0 : Int32))] []))
  refine Go.step (fun _ k => XS.aloadN X4.here hx rfl (hb hby d1_64) rfl rfl k) ?_
  show Go _ _ _ _ (T4.setTop (mkF m 65 #[.val (.ref o), .val (.int (64 : Int32)), .val (.int (1 : Int32)), .val (.int (1 : Int32)), .val (.int (0 : Int32))] [(.ref o)]))
  obtain ⟨T5, X5, e5, st5⟩ := getF X4 hx hZ hown (host := "") (Or.inl (hw _ (List.mem_of_getElem? (i := 14) rfl))) Via.refl e4 F4_levels (g := (mkF m 65 #[.val (.ref o), .val (.int (64 : Int32)), .val (.int (1 : Int32)), .val (.int (1 : Int32)), .val (.int (0 : Int32))] [(.ref o)])) rfl rfl (hb hby d1_65)
  refine Go.step st5 ?_
  show Go _ _ _ _ (T5.setTop (mkF m 68 #[.val (.ref o), .val (.int (64 : Int32)), .val (.int (1 : Int32)), .val (.int (1 : Int32)), .val (.int (0 : Int32))] [(.ref tl)]))
  refine Go.step (fun _ k => XS.iload X5.here hx rfl (hb hby d1_68) rfl k) ?_
  show Go _ _ _ _ (T5.setTop (mkF m 70 #[.val (.ref o), .val (.int (64 : Int32)), .val (.int (1 : Int32)), .val (.int (1 : Int32)), .val (.int (0 : Int32))] [(.int (0 : Int32)), (.ref tl)]))
  refine Go.step (fun _ k => XS.iloadN X5.here hx rfl (hb hby d1_70) rfl k) ?_
  show Go _ _ _ _ (T5.setTop (mkF m 71 #[.val (.ref o), .val (.int (64 : Int32)), .val (.int (1 : Int32)), .val (.int (1 : Int32)), .val (.int (0 : Int32))] [(.int (1 : Int32)), (.int (0 : Int32)), (.ref tl)]))
  obtain ⟨T6, h6, kk0, X6, e6, E6, A_t0, EX_t0, st6⟩ := newPE X5 hx hZ (hw _ (List.mem_of_getElem? (i := 16) rfl)) e5 (g := (mkF m 71 #[.val (.ref o), .val (.int (64 : Int32)), .val (.int (1 : Int32)), .val (.int (1 : Int32)), .val (.int (0 : Int32))] [(.int (1 : Int32)), (.int (0 : Int32)), (.ref tl)])) rfl (hb hby d1_71) rfl (by decide) (cap := 1) (by decide) (by decide) (by decide) (by decide) (ad := "[J") (by decide)
  obtain ⟨t0, gt0⟩ : ∃ z, z = h4.size := ⟨_, rfl⟩
  rw [← gt0] at A_t0 EX_t0 st6
  have lo_t0 : o < t0 := Nat.lt_of_lt_of_le E_4.lt (Nat.le_of_eq gt0.symm)
  have lt_t0 : tl < t0 := Nat.lt_of_lt_of_le AT4.lt (Nat.le_of_eq gt0.symm)
  have FX6_capacity := F4_capacity.ext E6
  have FX6_levels := F4_levels.ext E6
  have EO6 := E_4.ext E6
  have AT6 := AT4.ext E6
  refine Go.step st6 ?_
  show Go _ _ _ _ (T6.setTop (mkF m 73 #[.val (.ref o), .val (.int (64 : Int32)), .val (.int (1 : Int32)), .val (.int (1 : Int32)), .val (.int (0 : Int32))] [(.ref t0), (.int (0 : Int32)), (.ref tl)]))
  obtain ⟨T7, h7, X7, e7, W7, st7⟩ := stR X6 hx hZ e6 AT6 (j := (0 : Int32)) (own_in (i := 0) (Nat.le_of_ble_eq_true rfl) (by decide)) rfl (Sto.ofVA AT6 rfl O_tl (Ins.self EX_t0)) (g := (mkF m 73 #[.val (.ref o), .val (.int (64 : Int32)), .val (.int (1 : Int32)), .val (.int (1 : Int32)), .val (.int (0 : Int32))] [(.ref t0), (.int (0 : Int32)), (.ref tl)])) rfl rfl (hb hby d1_73)
  have NF7 := Fr.snoc X7 NF4 s_tl
  have FX7_capacity := FX6_capacity.other W7 (Or.inl n_tl)
  have FX7_levels := FX6_levels.other W7 (Or.inl n_tl)
  have EO7 := EO6.wr W7
  have AT7 := AT6.same W7
  have A07 := A_t0.other W7 (Nat.ne_of_gt lt_t0)
  refine Go.step st7 ?_
  show Go _ _ _ _ (T7.setTop (mkF m 74 #[.val (.ref o), .val (.int (64 : Int32)), .val (.int (1 : Int32)), .val (.int (1 : Int32)), .val (.int (0 : Int32))] []))
  refine Go.step (fun _ k => XS.iloadN X7.here hx rfl (hb hby d1_74) rfl k) ?_
  show Go _ _ _ _ (T7.setTop (mkF m 75 #[.val (.ref o), .val (.int (64 : Int32)), .val (.int (1 : Int32)), .val (.int (1 : Int32)), .val (.int (0 : Int32))] [(.int (1 : Int32))]))
  refine Go.step (fun _ k => XS.bipush X7.here hx rfl (hb hby d1_75) k) ?_
  show Go _ _ _ _ (T7.setTop (mkF m 77 #[.val (.ref o), .val (.int (64 : Int32)), .val (.int (1 : Int32)), .val (.int (1 : Int32)), .val (.int (0 : Int32))] [(.int (63 : Int32)), (.int (1 : Int32))]))
  refine Go.step (fun _ k => XS.iadd X7.here hx rfl (hb hby d1_77) rfl k) ?_
  show Go _ _ _ _ (T7.setTop (mkF m 78 #[.val (.ref o), .val (.int (64 : Int32)), .val (.int (1 : Int32)), .val (.int (1 : Int32)), .val (.int (0 : Int32))] [(.int ((1 : Int32) + (63 : Int32)))]))
  rw [(by decide : ((1 : Int32) + (63 : Int32)) = (64 : Int32))]
  show Go _ _ _ _ (T7.setTop (mkF m 78 #[.val (.ref o), .val (.int (64 : Int32)), .val (.int (1 : Int32)), .val (.int (1 : Int32)), .val (.int (0 : Int32))] [(.int (64 : Int32))]))
  refine Go.step (fun _ k => XS.bipush X7.here hx rfl (hb hby d1_78) k) ?_
  show Go _ _ _ _ (T7.setTop (mkF m 80 #[.val (.ref o), .val (.int (64 : Int32)), .val (.int (1 : Int32)), .val (.int (1 : Int32)), .val (.int (0 : Int32))] [(.int (6 : Int32)), (.int (64 : Int32))]))
  refine Go.step (fun _ k => XS.iushr X7.here hx rfl (hb hby d1_80) rfl k) ?_
  show Go _ _ _ _ (T7.setTop (mkF m 81 #[.val (.ref o), .val (.int (64 : Int32)), .val (.int (1 : Int32)), .val (.int (1 : Int32)), .val (.int (0 : Int32))] [(.int (((64 : Int32).toUInt32 >>> ((6 : Int32) &&& 31).toUInt32).toInt32))]))
  rw [(by decide : (((64 : Int32).toUInt32 >>> ((6 : Int32) &&& 31).toUInt32).toInt32) = (1 : Int32))]
  show Go _ _ _ _ (T7.setTop (mkF m 81 #[.val (.ref o), .val (.int (64 : Int32)), .val (.int (1 : Int32)), .val (.int (1 : Int32)), .val (.int (0 : Int32))] [(.int (1 : Int32))]))
  refine Go.step (fun _ k => XS.istoreN X7.here hx rfl (hb hby d1_81) rfl (l' := #[.val (.ref o), .val (.int (64 : Int32)), .val (.int (1 : Int32)), .val (.int (1 : Int32)), .val (.int (0 : Int32))]) rfl k) ?_
  show Go _ _ _ _ (T7.setTop (mkF m 82 #[.val (.ref o), .val (.int (64 : Int32)), .val (.int (1 : Int32)), .val (.int (1 : Int32)), .val (.int (0 : Int32))] []))
  refine Go.step (fun _ k => XS.iinc X7.here hx rfl (hb hby d1_82) rfl (l' := #[.val (.ref o), .val (.int (64 : Int32)), .val (.int (1 : Int32)), .val (.int (1 : Int32)), .val (.int (1 : Int32))]) rfl k) ?_
  show Go _ _ _ _ (T7.setTop (mkF m 85 #[.val (.ref o), .val (.int (64 : Int32)), .val (.int (1 : Int32)), .val (.int (1 : Int32)), .val (.int (1 : Int32))] []))
  refine Go.step (fun _ k => XS.goto X7.here hx rfl (pc0 := 85) (pc' := 58) rfl (hb hby d1_85) (by decide) (by decide) k) ?_
  show Go _ _ _ _ (T7.setTop (mkF m 58 #[.val (.ref o), .val (.int (64 : Int32)), .val (.int (1 : Int32)), .val (.int (1 : Int32)), .val (.int (1 : Int32))] []))
  refine Go.step (fun _ k => XS.iload X7.here hx rfl (hb hby d1_58) rfl k) ?_
  show Go _ _ _ _ (T7.setTop (mkF m 60 #[.val (.ref o), .val (.int (64 : Int32)), .val (.int (1 : Int32)), .val (.int (1 : Int32)), .val (.int (1 : Int32))] [(.int (1 : Int32))]))
  refine Go.step (fun _ k => XS.iloadN X7.here hx rfl (hb hby d1_60) rfl k) ?_
  show Go _ _ _ _ (T7.setTop (mkF m 61 #[.val (.ref o), .val (.int (64 : Int32)), .val (.int (1 : Int32)), .val (.int (1 : Int32)), .val (.int (1 : Int32))] [(.int (1 : Int32)), (.int (1 : Int32))]))
  refine Go.step (fun _ k => XS.icmpYes X7.here hx rfl (pc0 := 61) (pc' := 88) rfl (hb hby d1_61) rfl (flt (by decide : ¬ ((1 : Int32) < (1 : Int32)))).2.1 (by decide) (by decide) k) ?_
  show Go _ _ _ _ (T7.setTop (mkF m 88 #[.val (.ref o), .val (.int (64 : Int32)), .val (.int (1 : Int32)), .val (.int (1 : Int32)), .val (.int (1 : Int32))] []))
  refine Go.step (fun _ k => XS.aloadN X7.here hx rfl (hb hby d1_88) rfl rfl k) ?_
  show Go _ _ _ _ (T7.setTop (mkF m 89 #[.val (.ref o), .val (.int (64 : Int32)), .val (.int (1 : Int32)), .val (.int (1 : Int32)), .val (.int (1 : Int32))] [(.ref o)]))
  have gt0_ : n0 ≤ t0 := Nat.le_trans s_tl (Nat.le_of_lt lt_t0)
  have P0 : Lv Z h7 t0 1 (fun _ => false) := Lv.fresh A07 (by decide)
  refine goV X7 hx hZ hown (hw _ (List.mem_of_getElem? (i := 18) rfl)) (hw _ (List.mem_of_getElem? (i := 19) rfl)) (notFace_of_selects (args := #[]) (mvT hZ (hw _ (List.mem_of_getElem? (i := 21) rfl)))) (hw _ (List.mem_of_getElem? (i := 21) rfl)) (hw _ (List.mem_of_getElem? (i := 20) rfl)) (hw _ (List.mem_of_getElem? (i := 3) rfl)) (hw _ (List.mem_of_getElem? (i := 22) rfl)) (by decide) (rmCl1 l Z a0 hw [] h7 o tl t0 1 _ rfl rfl EO7 FX7_levels AT7 P0 (by decide) n0 gt0_ (Nat.ne_of_lt lo_t0) (Nat.ne_of_lt lt_t0)) e7 EO7 (by rw [hml]; rfl) [] [] rfl pd3 rfl rfl 0 rfl (hb hby d1_89) (by decide) (by decide) (by decide) (by decide) fun TC LC vC qC XC => ?_
  obtain ⟨rfl, NC, KC, PC0⟩ := qC
  have OB : Obj Z TC.heap o 1 (fun _ => false) n0 := ⟨tl, t0, _, EO7.keep KC, FX7_capacity.keep KC (ninS (Nat.ne_of_lt lo_t0) nin0), FX7_levels.keep KC (ninS (Nat.ne_of_lt lo_t0) nin0), ⟨KC.2.1 _ _ AT7.1 (ninS (Nat.ne_of_lt lt_t0) nin0), AT7.2⟩, rfl, PC0, gt0_, Nat.ne_of_lt lo_t0, Nat.ne_of_lt lt_t0, Or.inl ⟨rfl, rfl⟩⟩
  show Go _ _ _ _ (TC.setTop (mkF m 92 #[.val (.ref o), .val (.int (64 : Int32)), .val (.int (1 : Int32)), .val (.int (1 : Int32)), .val (.int (1 : Int32))] []))
  exact leafV XC hx hret hlk (hb hby d1_92) ⟨rfl, (Fr.app NF7 NC), OB⟩ (by decide) (by decide)
set_option maxRecDepth 65536 in
set_option maxHeartbeats 40000000 in
theorem rmC2 (l : Launch) (Z : State) (a0 : Array Value) (hw : ∀ d ∈ tables_1, d.before a0 Z = true) (ws : List Jvm.Cond)  (h0 : Heap) (o : Addr) (n0 : Nat) (Z0 : n0 ≤ h0.size) (g0 : n0 ≤ o) (E0 : Exa Z h0 o "com/example/prefix_scope/prefixscope/NumberSet") (FC0 : Fld Z h0 o "com/example/prefix_scope/prefixscope/NumberSet" "capacity" "I" (.int (0 : Int32))) (FL0 : Fld Z h0 o "com/example/prefix_scope/prefixscope/NumberSet" "levels" "[[J" .null) : Con l Z (⟨"com/example/prefix_scope/prefixscope/NumberSet", "<init>", "(I)V"⟩ : MethodName) prog_9_method_1_code 5 none ws ({ frames := 2, cells := 3, slots := 7, locals := 35 } : Room) #[(.ref o), (.int (128 : Int32))] h0 (fun v h L => v = none ∧ Fr n0 L ∧ Obj Z h o 2 (fun _ => false) n0) := by
  refine Con.of pn1 fun p e s m below meth c s₁ hZ hx hby hml hown hret hlk hnm X0 e0 => ?_
  rw [ef1]
  show Go _ _ _ _ (s₁.setTop (mkF m 0 #[.val (.ref o), .val (.int (128 : Int32)), .unset, .unset, .unset] []))
  refine Go.step (fun _ k => XS.aloadN X0.here hx rfl (hb hby d1_0) rfl rfl k) ?_
  show Go _ _ _ _ (s₁.setTop (mkF m 1 #[.val (.ref o), .val (.int (128 : Int32)), .unset, .unset, .unset] [(.ref o)]))
  obtain ⟨T1, X1, e1, st1⟩ := initO X0 hx hZ hown (hw _ (List.mem_of_getElem? (i := 7) rfl)) (hw _ (List.mem_of_getElem? (i := 8) rfl)) (hw _ (List.mem_of_getElem? (i := 9) rfl)) e0 (g := (mkF m 1 #[.val (.ref o), .val (.int (128 : Int32)), .unset, .unset, .unset] [(.ref o)])) rfl (by rw [hml]; rfl) rfl (hb hby d1_1) (by decide) (W := 0) (by show 2 * 0 + _ ≤ _; exact Nat.le_of_eq rfl) (by decide)
  refine Go.step st1 ?_
  show Go _ _ _ _ (T1.setTop (mkF m 4 #[.val (.ref o), .val (.int (128 : Int32)), .unset, .unset, .unset] []))
  refine Go.step (fun _ k => XS.iloadN X1.here hx rfl (hb hby d1_4) rfl k) ?_
  show Go _ _ _ _ (T1.setTop (mkF m 5 #[.val (.ref o), .val (.int (128 : Int32)), .unset, .unset, .unset] [(.int (128 : Int32))]))
  refine Go.step (fun _ k => XS.bipush X1.here hx rfl (hb hby d1_5) k) ?_
  show Go _ _ _ _ (T1.setTop (mkF m 7 #[.val (.ref o), .val (.int (128 : Int32)), .unset, .unset, .unset] [(.int (63 : Int32)), (.int (128 : Int32))]))
  refine Go.step (fun _ k => XS.iadd X1.here hx rfl (hb hby d1_7) rfl k) ?_
  show Go _ _ _ _ (T1.setTop (mkF m 8 #[.val (.ref o), .val (.int (128 : Int32)), .unset, .unset, .unset] [(.int ((128 : Int32) + (63 : Int32)))]))
  rw [(by decide : ((128 : Int32) + (63 : Int32)) = (191 : Int32))]
  show Go _ _ _ _ (T1.setTop (mkF m 8 #[.val (.ref o), .val (.int (128 : Int32)), .unset, .unset, .unset] [(.int (191 : Int32))]))
  refine Go.step (fun _ k => XS.bipush X1.here hx rfl (hb hby d1_8) k) ?_
  show Go _ _ _ _ (T1.setTop (mkF m 10 #[.val (.ref o), .val (.int (128 : Int32)), .unset, .unset, .unset] [(.int (6 : Int32)), (.int (191 : Int32))]))
  refine Go.step (fun _ k => XS.iushr X1.here hx rfl (hb hby d1_10) rfl k) ?_
  show Go _ _ _ _ (T1.setTop (mkF m 11 #[.val (.ref o), .val (.int (128 : Int32)), .unset, .unset, .unset] [(.int (((191 : Int32).toUInt32 >>> ((6 : Int32) &&& 31).toUInt32).toInt32))]))
  rw [(by decide : (((191 : Int32).toUInt32 >>> ((6 : Int32) &&& 31).toUInt32).toInt32) = (2 : Int32))]
  show Go _ _ _ _ (T1.setTop (mkF m 11 #[.val (.ref o), .val (.int (128 : Int32)), .unset, .unset, .unset] [(.int (2 : Int32))]))
  refine Go.step (fun _ k => XS.istoreN X1.here hx rfl (hb hby d1_11) rfl (l' := #[.val (.ref o), .val (.int (128 : Int32)), .val (.int (2 : Int32)), .unset, .unset]) rfl k) ?_
  show Go _ _ _ _ (T1.setTop (mkF m 12 #[.val (.ref o), .val (.int (128 : Int32)), .val (.int (2 : Int32)), .unset, .unset] []))
  refine Go.step (fun _ k => XS.aloadN X1.here hx rfl (hb hby d1_12) rfl rfl k) ?_
  show Go _ _ _ _ (T1.setTop (mkF m 13 #[.val (.ref o), .val (.int (128 : Int32)), .val (.int (2 : Int32)), .unset, .unset] [(.ref o)]))
  refine Go.step (fun _ k => XS.iloadN X1.here hx rfl (hb hby d1_13) rfl k) ?_
  show Go _ _ _ _ (T1.setTop (mkF m 14 #[.val (.ref o), .val (.int (128 : Int32)), .val (.int (2 : Int32)), .unset, .unset] [(.int (2 : Int32)), (.ref o)]))
  refine Go.step (fun _ k => XS.bipush X1.here hx rfl (hb hby d1_14) k) ?_
  show Go _ _ _ _ (T1.setTop (mkF m 16 #[.val (.ref o), .val (.int (128 : Int32)), .val (.int (2 : Int32)), .unset, .unset] [(.int (6 : Int32)), (.int (2 : Int32)), (.ref o)]))
  refine Go.step (fun _ k => XS.ishl X1.here hx rfl (hb hby d1_16) rfl k) ?_
  show Go _ _ _ _ (T1.setTop (mkF m 17 #[.val (.ref o), .val (.int (128 : Int32)), .val (.int (2 : Int32)), .unset, .unset] [(.int ((2 : Int32) <<< ((6 : Int32) &&& 31))), (.ref o)]))
  rw [(by decide : ((2 : Int32) <<< ((6 : Int32) &&& 31)) = (128 : Int32))]
  show Go _ _ _ _ (T1.setTop (mkF m 17 #[.val (.ref o), .val (.int (128 : Int32)), .val (.int (2 : Int32)), .unset, .unset] [(.int (128 : Int32)), (.ref o)]))
  obtain ⟨T2, h2, X2, e2, W2, st2⟩ := putF X1 hx hZ hown (host := "") (Or.inl (hw _ (List.mem_of_getElem? (i := 10) rfl))) Via.refl e1 FC0 E0 (Or.inr ⟨(hw _ (List.mem_of_getElem? (i := 11) rfl)), rfl, hnm⟩) (hw _ (List.mem_of_getElem? (i := 2) rfl)) (ty := .int) (by decide) rfl rfl (g := (mkF m 17 #[.val (.ref o), .val (.int (128 : Int32)), .val (.int (2 : Int32)), .unset, .unset] [(.int (128 : Int32)), (.ref o)])) rfl rfl (hb hby d1_17)
  have F2_capacity := FC0.same W2
  have F2_levels := FL0.other W2 (Or.inr (slot_ne (Or.inr (hw _ (List.mem_of_getElem? (i := 15) rfl))) (Or.inr (hw _ (List.mem_of_getElem? (i := 11) rfl))) (by decide) (t := (.array (.array .long))) (t' := .int) (by decide) (by decide)))
  have E_2 := E0.wr W2
  have NF2 := Fr.snoc X2 (Fr.nil n0) g0
  refine Go.step st2 ?_
  show Go _ _ _ _ (T2.setTop (mkF m 20 #[.val (.ref o), .val (.int (128 : Int32)), .val (.int (2 : Int32)), .unset, .unset] []))
  refine Go.step (fun _ k => XS.iconst X2.here hx rfl (hb hby d1_20) k) ?_
  show Go _ _ _ _ (T2.setTop (mkF m 21 #[.val (.ref o), .val (.int (128 : Int32)), .val (.int (2 : Int32)), .unset, .unset] [(.int (1 : Int32))]))
  refine Go.step (fun _ k => XS.istoreN X2.here hx rfl (hb hby d1_21) rfl (l' := #[.val (.ref o), .val (.int (128 : Int32)), .val (.int (2 : Int32)), .val (.int (1 : Int32)), .unset]) rfl k) ?_
  show Go _ _ _ _ (T2.setTop (mkF m 22 #[.val (.ref o), .val (.int (128 : Int32)), .val (.int (2 : Int32)), .val (.int (1 : Int32)), .unset] []))
  refine Go.step (fun _ k => XS.iloadN X2.here hx rfl (hb hby d1_22) rfl k) ?_
  show Go _ _ _ _ (T2.setTop (mkF m 23 #[.val (.ref o), .val (.int (128 : Int32)), .val (.int (2 : Int32)), .val (.int (1 : Int32)), .unset] [(.int (2 : Int32))]))
  refine Go.step (fun _ k => XS.istore X2.here hx rfl (hb hby d1_23) rfl (l' := #[.val (.ref o), .val (.int (128 : Int32)), .val (.int (2 : Int32)), .val (.int (1 : Int32)), .val (.int (2 : Int32))]) rfl k) ?_
  show Go _ _ _ _ (T2.setTop (mkF m 25 #[.val (.ref o), .val (.int (128 : Int32)), .val (.int (2 : Int32)), .val (.int (1 : Int32)), .val (.int (2 : Int32))] []))
  refine Go.step (fun _ k => XS.iload X2.here hx rfl (hb hby d1_25) rfl k) ?_
  show Go _ _ _ _ (T2.setTop (mkF m 27 #[.val (.ref o), .val (.int (128 : Int32)), .val (.int (2 : Int32)), .val (.int (1 : Int32)), .val (.int (2 : Int32))] [(.int (2 : Int32))]))
  refine Go.step (fun _ k => XS.iconst X2.here hx rfl (hb hby d1_27) k) ?_
  show Go _ _ _ _ (T2.setTop (mkF m 28 #[.val (.ref o), .val (.int (128 : Int32)), .val (.int (2 : Int32)), .val (.int (1 : Int32)), .val (.int (2 : Int32))] [(.int (1 : Int32)), (.int (2 : Int32))]))
  refine Go.step (fun _ k => XS.icmpNo X2.here hx rfl (hb hby d1_28) rfl (tlt (by decide : ((1 : Int32) < (2 : Int32)))).2.2.2 k) ?_
  show Go _ _ _ _ (T2.setTop (mkF m 31 #[.val (.ref o), .val (.int (128 : Int32)), .val (.int (2 : Int32)), .val (.int (1 : Int32)), .val (.int (2 : Int32))] []))
  refine Go.step (fun _ k => XS.iinc X2.here hx rfl (hb hby d1_31) rfl (l' := #[.val (.ref o), .val (.int (128 : Int32)), .val (.int (2 : Int32)), .val (.int (2 : Int32)), .val (.int (2 : Int32))]) rfl k) ?_
  show Go _ _ _ _ (T2.setTop (mkF m 34 #[.val (.ref o), .val (.int (128 : Int32)), .val (.int (2 : Int32)), .val (.int (2 : Int32)), .val (.int (2 : Int32))] []))
  refine Go.step (fun _ k => XS.iload X2.here hx rfl (hb hby d1_34) rfl k) ?_
  show Go _ _ _ _ (T2.setTop (mkF m 36 #[.val (.ref o), .val (.int (128 : Int32)), .val (.int (2 : Int32)), .val (.int (2 : Int32)), .val (.int (2 : Int32))] [(.int (2 : Int32))]))
  refine Go.step (fun _ k => XS.bipush X2.here hx rfl (hb hby d1_36) k) ?_
  show Go _ _ _ _ (T2.setTop (mkF m 38 #[.val (.ref o), .val (.int (128 : Int32)), .val (.int (2 : Int32)), .val (.int (2 : Int32)), .val (.int (2 : Int32))] [(.int (63 : Int32)), (.int (2 : Int32))]))
  refine Go.step (fun _ k => XS.iadd X2.here hx rfl (hb hby d1_38) rfl k) ?_
  show Go _ _ _ _ (T2.setTop (mkF m 39 #[.val (.ref o), .val (.int (128 : Int32)), .val (.int (2 : Int32)), .val (.int (2 : Int32)), .val (.int (2 : Int32))] [(.int ((2 : Int32) + (63 : Int32)))]))
  rw [(by decide : ((2 : Int32) + (63 : Int32)) = (65 : Int32))]
  show Go _ _ _ _ (T2.setTop (mkF m 39 #[.val (.ref o), .val (.int (128 : Int32)), .val (.int (2 : Int32)), .val (.int (2 : Int32)), .val (.int (2 : Int32))] [(.int (65 : Int32))]))
  refine Go.step (fun _ k => XS.bipush X2.here hx rfl (hb hby d1_39) k) ?_
  show Go _ _ _ _ (T2.setTop (mkF m 41 #[.val (.ref o), .val (.int (128 : Int32)), .val (.int (2 : Int32)), .val (.int (2 : Int32)), .val (.int (2 : Int32))] [(.int (6 : Int32)), (.int (65 : Int32))]))
  refine Go.step (fun _ k => XS.iushr X2.here hx rfl (hb hby d1_41) rfl k) ?_
  show Go _ _ _ _ (T2.setTop (mkF m 42 #[.val (.ref o), .val (.int (128 : Int32)), .val (.int (2 : Int32)), .val (.int (2 : Int32)), .val (.int (2 : Int32))] [(.int (((65 : Int32).toUInt32 >>> ((6 : Int32) &&& 31).toUInt32).toInt32))]))
  rw [(by decide : (((65 : Int32).toUInt32 >>> ((6 : Int32) &&& 31).toUInt32).toInt32) = (1 : Int32))]
  show Go _ _ _ _ (T2.setTop (mkF m 42 #[.val (.ref o), .val (.int (128 : Int32)), .val (.int (2 : Int32)), .val (.int (2 : Int32)), .val (.int (2 : Int32))] [(.int (1 : Int32))]))
  refine Go.step (fun _ k => XS.istore X2.here hx rfl (hb hby d1_42) rfl (l' := #[.val (.ref o), .val (.int (128 : Int32)), .val (.int (2 : Int32)), .val (.int (2 : Int32)), .val (.int (1 : Int32))]) rfl k) ?_
  show Go _ _ _ _ (T2.setTop (mkF m 44 #[.val (.ref o), .val (.int (128 : Int32)), .val (.int (2 : Int32)), .val (.int (2 : Int32)), .val (.int (1 : Int32))] []))
  refine Go.step (fun _ k => XS.goto X2.here hx rfl (pc0 := 44) (pc' := 25) rfl (hb hby d1_44) (by decide) (by decide) k) ?_
  show Go _ _ _ _ (T2.setTop (mkF m 25 #[.val (.ref o), .val (.int (128 : Int32)), .val (.int (2 : Int32)), .val (.int (2 : Int32)), .val (.int (1 : Int32))] []))
  refine Go.step (fun _ k => XS.iload X2.here hx rfl (hb hby d1_25) rfl k) ?_
  show Go _ _ _ _ (T2.setTop (mkF m 27 #[.val (.ref o), .val (.int (128 : Int32)), .val (.int (2 : Int32)), .val (.int (2 : Int32)), .val (.int (1 : Int32))] [(.int (1 : Int32))]))
  refine Go.step (fun _ k => XS.iconst X2.here hx rfl (hb hby d1_27) k) ?_
  show Go _ _ _ _ (T2.setTop (mkF m 28 #[.val (.ref o), .val (.int (128 : Int32)), .val (.int (2 : Int32)), .val (.int (2 : Int32)), .val (.int (1 : Int32))] [(.int (1 : Int32)), (.int (1 : Int32))]))
  refine Go.step (fun _ k => XS.icmpYes X2.here hx rfl (pc0 := 28) (pc' := 47) rfl (hb hby d1_28) rfl (flt (by decide : ¬ ((1 : Int32) < (1 : Int32)))).2.2.2 (by decide) (by decide) k) ?_
  show Go _ _ _ _ (T2.setTop (mkF m 47 #[.val (.ref o), .val (.int (128 : Int32)), .val (.int (2 : Int32)), .val (.int (2 : Int32)), .val (.int (1 : Int32))] []))
  refine Go.step (fun _ k => XS.aloadN X2.here hx rfl (hb hby d1_47) rfl rfl k) ?_
  show Go _ _ _ _ (T2.setTop (mkF m 48 #[.val (.ref o), .val (.int (128 : Int32)), .val (.int (2 : Int32)), .val (.int (2 : Int32)), .val (.int (1 : Int32))] [(.ref o)]))
  refine Go.step (fun _ k => XS.iloadN X2.here hx rfl (hb hby d1_48) rfl k) ?_
  show Go _ _ _ _ (T2.setTop (mkF m 49 #[.val (.ref o), .val (.int (128 : Int32)), .val (.int (2 : Int32)), .val (.int (2 : Int32)), .val (.int (1 : Int32))] [(.int (2 : Int32)), (.ref o)]))
  obtain ⟨T3, h3, kT, X3, e3, E3, A_tl, EX_tl, O_tl, st3⟩ := newRA X2 hx hZ hown (C := "[J") (ty := .long) (by decide) (hw _ (List.mem_of_getElem? (i := 12) rfl)) (hw _ (List.mem_of_getElem? (i := 13) rfl)) e2 (g := (mkF m 49 #[.val (.ref o), .val (.int (128 : Int32)), .val (.int (2 : Int32)), .val (.int (2 : Int32)), .val (.int (1 : Int32))] [(.int (2 : Int32)), (.ref o)])) rfl (hb hby d1_49) rfl (by decide) (cap := 2) (by decide) (by decide) (by decide) (by decide) (ad := "[[J") (by decide)
  obtain ⟨tl, gtl⟩ : ∃ z, z = h2.size := ⟨_, rfl⟩
  rw [← gtl] at A_tl EX_tl st3
  have n_tl : o ≠ tl := Nat.ne_of_lt (Nat.lt_of_lt_of_le E_2.lt (Nat.le_of_eq gtl.symm))
  have s_tl : n0 ≤ tl := Nat.le_trans Z0 (Nat.le_trans (Nat.le_of_eq W2.size.symm) (Nat.le_of_eq gtl.symm))
  have FX3_capacity := F2_capacity.ext E3
  have FX3_levels := F2_levels.ext E3
  have EO3 := E_2.ext E3
  refine Go.step st3 ?_
  show Go _ _ _ _ (T3.setTop (mkF m 52 #[.val (.ref o), .val (.int (128 : Int32)), .val (.int (2 : Int32)), .val (.int (2 : Int32)), .val (.int (1 : Int32))] [(.ref tl), (.ref o)]))
  obtain ⟨T4, h4, X4, e4, W4, st4⟩ := putF X3 hx hZ hown (host := "") (Or.inl (hw _ (List.mem_of_getElem? (i := 14) rfl))) Via.refl e3 FX3_levels EO3 (Or.inr ⟨(hw _ (List.mem_of_getElem? (i := 15) rfl)), rfl, hnm⟩) (hw _ (List.mem_of_getElem? (i := 2) rfl)) (ty := (.array (.array .long))) (by decide) rfl rfl (g := (mkF m 52 #[.val (.ref o), .val (.int (128 : Int32)), .val (.int (2 : Int32)), .val (.int (2 : Int32)), .val (.int (1 : Int32))] [(.ref tl), (.ref o)])) rfl rfl (hb hby d1_52)
  have F4_capacity := FX3_capacity.other W4 (Or.inr (slot_ne (Or.inr (hw _ (List.mem_of_getElem? (i := 11) rfl))) (Or.inr (hw _ (List.mem_of_getElem? (i := 15) rfl))) (by decide) (t := .int) (t' := (.array (.array .long))) (by decide) (by decide)))
  have F4_levels := FX3_levels.same W4
  have E_4 := EO3.wr W4
  have NF4 := Fr.snoc X4 NF2 g0
  refine Go.step st4 ?_
  have AT4 := A_tl.other W4 (Ne.symm n_tl)
  show Go _ _ _ _ (T4.setTop (mkF m 55 #[.val (.ref o), .val (.int (128 : Int32)), .val (.int (2 : Int32)), .val (.int (2 : Int32)), .val (.int (1 : Int32))] []))
  refine Go.step (fun _ k => XS.iconst X4.here hx rfl (hb hby d1_55) k) ?_
  show Go _ _ _ _ (T4.setTop (mkF m 56 #[.val (.ref o), .val (.int (128 : Int32)), .val (.int (2 : Int32)), .val (.int (2 : Int32)), .val (.int (1 : Int32))] [(.int (0 : Int32))]))
  refine Go.step (fun _ k => XS.istore X4.here hx rfl (hb hby d1_56) rfl (l' := #[.val (.ref o), .val (.int (128 : Int32)), .val (.int (2 : Int32)), .val (.int (2 : Int32)), .val (.int (0 : Int32))]) rfl k) ?_
  show Go _ _ _ _ (T4.setTop (mkF m 58 #[.val (.ref o), .val (.int (128 : Int32)), .val (.int (2 : Int32)), .val (.int (2 : Int32)), .val (.int (0 : Int32))] []))
  refine Go.step (fun _ k => XS.iload X4.here hx rfl (hb hby d1_58) rfl k) ?_
  show Go _ _ _ _ (T4.setTop (mkF m 60 #[.val (.ref o), .val (.int (128 : Int32)), .val (.int (2 : Int32)), .val (.int (2 : Int32)), .val (.int (0 : Int32))] [(.int (0 : Int32))]))
  refine Go.step (fun _ k => XS.iloadN X4.here hx rfl (hb hby d1_60) rfl k) ?_
  show Go _ _ _ _ (T4.setTop (mkF m 61 #[.val (.ref o), .val (.int (128 : Int32)), .val (.int (2 : Int32)), .val (.int (2 : Int32)), .val (.int (0 : Int32))] [(.int (2 : Int32)), (.int (0 : Int32))]))
  refine Go.step (fun _ k => XS.icmpNo X4.here hx rfl (hb hby d1_61) rfl (tlt (by decide : ((0 : Int32) < (2 : Int32)))).2.1 k) ?_
  show Go _ _ _ _ (T4.setTop (mkF m 64 #[.val (.ref o), .val (.int (128 : Int32)), .val (.int (2 : Int32)), .val (.int (2 : Int32)), .val (.int (0 : Int32))] []))
  refine Go.step (fun _ k => XS.aloadN X4.here hx rfl (hb hby d1_64) rfl rfl k) ?_
  show Go _ _ _ _ (T4.setTop (mkF m 65 #[.val (.ref o), .val (.int (128 : Int32)), .val (.int (2 : Int32)), .val (.int (2 : Int32)), .val (.int (0 : Int32))] [(.ref o)]))
  obtain ⟨T5, X5, e5, st5⟩ := getF X4 hx hZ hown (host := "") (Or.inl (hw _ (List.mem_of_getElem? (i := 14) rfl))) Via.refl e4 F4_levels (g := (mkF m 65 #[.val (.ref o), .val (.int (128 : Int32)), .val (.int (2 : Int32)), .val (.int (2 : Int32)), .val (.int (0 : Int32))] [(.ref o)])) rfl rfl (hb hby d1_65)
  refine Go.step st5 ?_
  show Go _ _ _ _ (T5.setTop (mkF m 68 #[.val (.ref o), .val (.int (128 : Int32)), .val (.int (2 : Int32)), .val (.int (2 : Int32)), .val (.int (0 : Int32))] [(.ref tl)]))
  refine Go.step (fun _ k => XS.iload X5.here hx rfl (hb hby d1_68) rfl k) ?_
  show Go _ _ _ _ (T5.setTop (mkF m 70 #[.val (.ref o), .val (.int (128 : Int32)), .val (.int (2 : Int32)), .val (.int (2 : Int32)), .val (.int (0 : Int32))] [(.int (0 : Int32)), (.ref tl)]))
  refine Go.step (fun _ k => XS.iloadN X5.here hx rfl (hb hby d1_70) rfl k) ?_
  show Go _ _ _ _ (T5.setTop (mkF m 71 #[.val (.ref o), .val (.int (128 : Int32)), .val (.int (2 : Int32)), .val (.int (2 : Int32)), .val (.int (0 : Int32))] [(.int (2 : Int32)), (.int (0 : Int32)), (.ref tl)]))
  obtain ⟨T6, h6, kk0, X6, e6, E6, A_t0, EX_t0, st6⟩ := newPE X5 hx hZ (hw _ (List.mem_of_getElem? (i := 16) rfl)) e5 (g := (mkF m 71 #[.val (.ref o), .val (.int (128 : Int32)), .val (.int (2 : Int32)), .val (.int (2 : Int32)), .val (.int (0 : Int32))] [(.int (2 : Int32)), (.int (0 : Int32)), (.ref tl)])) rfl (hb hby d1_71) rfl (by decide) (cap := 2) (by decide) (by decide) (by decide) (by decide) (ad := "[J") (by decide)
  obtain ⟨t0, gt0⟩ : ∃ z, z = h4.size := ⟨_, rfl⟩
  rw [← gt0] at A_t0 EX_t0 st6
  have lo_t0 : o < t0 := Nat.lt_of_lt_of_le E_4.lt (Nat.le_of_eq gt0.symm)
  have lt_t0 : tl < t0 := Nat.lt_of_lt_of_le AT4.lt (Nat.le_of_eq gt0.symm)
  have FX6_capacity := F4_capacity.ext E6
  have FX6_levels := F4_levels.ext E6
  have EO6 := E_4.ext E6
  have AT6 := AT4.ext E6
  refine Go.step st6 ?_
  show Go _ _ _ _ (T6.setTop (mkF m 73 #[.val (.ref o), .val (.int (128 : Int32)), .val (.int (2 : Int32)), .val (.int (2 : Int32)), .val (.int (0 : Int32))] [(.ref t0), (.int (0 : Int32)), (.ref tl)]))
  obtain ⟨T7, h7, X7, e7, W7, st7⟩ := stR X6 hx hZ e6 AT6 (j := (0 : Int32)) (own_in (i := 0) (Nat.le_of_ble_eq_true rfl) (by decide)) rfl (Sto.ofVA AT6 rfl O_tl (Ins.self EX_t0)) (g := (mkF m 73 #[.val (.ref o), .val (.int (128 : Int32)), .val (.int (2 : Int32)), .val (.int (2 : Int32)), .val (.int (0 : Int32))] [(.ref t0), (.int (0 : Int32)), (.ref tl)])) rfl rfl (hb hby d1_73)
  have NF7 := Fr.snoc X7 NF4 s_tl
  have FX7_capacity := FX6_capacity.other W7 (Or.inl n_tl)
  have FX7_levels := FX6_levels.other W7 (Or.inl n_tl)
  have EO7 := EO6.wr W7
  have AT7 := AT6.same W7
  have A07 := A_t0.other W7 (Nat.ne_of_gt lt_t0)
  refine Go.step st7 ?_
  show Go _ _ _ _ (T7.setTop (mkF m 74 #[.val (.ref o), .val (.int (128 : Int32)), .val (.int (2 : Int32)), .val (.int (2 : Int32)), .val (.int (0 : Int32))] []))
  refine Go.step (fun _ k => XS.iloadN X7.here hx rfl (hb hby d1_74) rfl k) ?_
  show Go _ _ _ _ (T7.setTop (mkF m 75 #[.val (.ref o), .val (.int (128 : Int32)), .val (.int (2 : Int32)), .val (.int (2 : Int32)), .val (.int (0 : Int32))] [(.int (2 : Int32))]))
  refine Go.step (fun _ k => XS.bipush X7.here hx rfl (hb hby d1_75) k) ?_
  show Go _ _ _ _ (T7.setTop (mkF m 77 #[.val (.ref o), .val (.int (128 : Int32)), .val (.int (2 : Int32)), .val (.int (2 : Int32)), .val (.int (0 : Int32))] [(.int (63 : Int32)), (.int (2 : Int32))]))
  refine Go.step (fun _ k => XS.iadd X7.here hx rfl (hb hby d1_77) rfl k) ?_
  show Go _ _ _ _ (T7.setTop (mkF m 78 #[.val (.ref o), .val (.int (128 : Int32)), .val (.int (2 : Int32)), .val (.int (2 : Int32)), .val (.int (0 : Int32))] [(.int ((2 : Int32) + (63 : Int32)))]))
  rw [(by decide : ((2 : Int32) + (63 : Int32)) = (65 : Int32))]
  show Go _ _ _ _ (T7.setTop (mkF m 78 #[.val (.ref o), .val (.int (128 : Int32)), .val (.int (2 : Int32)), .val (.int (2 : Int32)), .val (.int (0 : Int32))] [(.int (65 : Int32))]))
  refine Go.step (fun _ k => XS.bipush X7.here hx rfl (hb hby d1_78) k) ?_
  show Go _ _ _ _ (T7.setTop (mkF m 80 #[.val (.ref o), .val (.int (128 : Int32)), .val (.int (2 : Int32)), .val (.int (2 : Int32)), .val (.int (0 : Int32))] [(.int (6 : Int32)), (.int (65 : Int32))]))
  refine Go.step (fun _ k => XS.iushr X7.here hx rfl (hb hby d1_80) rfl k) ?_
  show Go _ _ _ _ (T7.setTop (mkF m 81 #[.val (.ref o), .val (.int (128 : Int32)), .val (.int (2 : Int32)), .val (.int (2 : Int32)), .val (.int (0 : Int32))] [(.int (((65 : Int32).toUInt32 >>> ((6 : Int32) &&& 31).toUInt32).toInt32))]))
  rw [(by decide : (((65 : Int32).toUInt32 >>> ((6 : Int32) &&& 31).toUInt32).toInt32) = (1 : Int32))]
  show Go _ _ _ _ (T7.setTop (mkF m 81 #[.val (.ref o), .val (.int (128 : Int32)), .val (.int (2 : Int32)), .val (.int (2 : Int32)), .val (.int (0 : Int32))] [(.int (1 : Int32))]))
  refine Go.step (fun _ k => XS.istoreN X7.here hx rfl (hb hby d1_81) rfl (l' := #[.val (.ref o), .val (.int (128 : Int32)), .val (.int (1 : Int32)), .val (.int (2 : Int32)), .val (.int (0 : Int32))]) rfl k) ?_
  show Go _ _ _ _ (T7.setTop (mkF m 82 #[.val (.ref o), .val (.int (128 : Int32)), .val (.int (1 : Int32)), .val (.int (2 : Int32)), .val (.int (0 : Int32))] []))
  refine Go.step (fun _ k => XS.iinc X7.here hx rfl (hb hby d1_82) rfl (l' := #[.val (.ref o), .val (.int (128 : Int32)), .val (.int (1 : Int32)), .val (.int (2 : Int32)), .val (.int (1 : Int32))]) rfl k) ?_
  show Go _ _ _ _ (T7.setTop (mkF m 85 #[.val (.ref o), .val (.int (128 : Int32)), .val (.int (1 : Int32)), .val (.int (2 : Int32)), .val (.int (1 : Int32))] []))
  refine Go.step (fun _ k => XS.goto X7.here hx rfl (pc0 := 85) (pc' := 58) rfl (hb hby d1_85) (by decide) (by decide) k) ?_
  show Go _ _ _ _ (T7.setTop (mkF m 58 #[.val (.ref o), .val (.int (128 : Int32)), .val (.int (1 : Int32)), .val (.int (2 : Int32)), .val (.int (1 : Int32))] []))
  refine Go.step (fun _ k => XS.iload X7.here hx rfl (hb hby d1_58) rfl k) ?_
  show Go _ _ _ _ (T7.setTop (mkF m 60 #[.val (.ref o), .val (.int (128 : Int32)), .val (.int (1 : Int32)), .val (.int (2 : Int32)), .val (.int (1 : Int32))] [(.int (1 : Int32))]))
  refine Go.step (fun _ k => XS.iloadN X7.here hx rfl (hb hby d1_60) rfl k) ?_
  show Go _ _ _ _ (T7.setTop (mkF m 61 #[.val (.ref o), .val (.int (128 : Int32)), .val (.int (1 : Int32)), .val (.int (2 : Int32)), .val (.int (1 : Int32))] [(.int (2 : Int32)), (.int (1 : Int32))]))
  refine Go.step (fun _ k => XS.icmpNo X7.here hx rfl (hb hby d1_61) rfl (tlt (by decide : ((1 : Int32) < (2 : Int32)))).2.1 k) ?_
  show Go _ _ _ _ (T7.setTop (mkF m 64 #[.val (.ref o), .val (.int (128 : Int32)), .val (.int (1 : Int32)), .val (.int (2 : Int32)), .val (.int (1 : Int32))] []))
  refine Go.step (fun _ k => XS.aloadN X7.here hx rfl (hb hby d1_64) rfl rfl k) ?_
  show Go _ _ _ _ (T7.setTop (mkF m 65 #[.val (.ref o), .val (.int (128 : Int32)), .val (.int (1 : Int32)), .val (.int (2 : Int32)), .val (.int (1 : Int32))] [(.ref o)]))
  obtain ⟨T8, X8, e8, st8⟩ := getF X7 hx hZ hown (host := "") (Or.inl (hw _ (List.mem_of_getElem? (i := 14) rfl))) Via.refl e7 FX7_levels (g := (mkF m 65 #[.val (.ref o), .val (.int (128 : Int32)), .val (.int (1 : Int32)), .val (.int (2 : Int32)), .val (.int (1 : Int32))] [(.ref o)])) rfl rfl (hb hby d1_65)
  refine Go.step st8 ?_
  show Go _ _ _ _ (T8.setTop (mkF m 68 #[.val (.ref o), .val (.int (128 : Int32)), .val (.int (1 : Int32)), .val (.int (2 : Int32)), .val (.int (1 : Int32))] [(.ref tl)]))
  refine Go.step (fun _ k => XS.iload X8.here hx rfl (hb hby d1_68) rfl k) ?_
  show Go _ _ _ _ (T8.setTop (mkF m 70 #[.val (.ref o), .val (.int (128 : Int32)), .val (.int (1 : Int32)), .val (.int (2 : Int32)), .val (.int (1 : Int32))] [(.int (1 : Int32)), (.ref tl)]))
  refine Go.step (fun _ k => XS.iloadN X8.here hx rfl (hb hby d1_70) rfl k) ?_
  show Go _ _ _ _ (T8.setTop (mkF m 71 #[.val (.ref o), .val (.int (128 : Int32)), .val (.int (1 : Int32)), .val (.int (2 : Int32)), .val (.int (1 : Int32))] [(.int (1 : Int32)), (.int (1 : Int32)), (.ref tl)]))
  obtain ⟨T9, h9, kk1, X9, e9, E9, A_t1, EX_t1, st9⟩ := newPE X8 hx hZ (hw _ (List.mem_of_getElem? (i := 16) rfl)) e8 (g := (mkF m 71 #[.val (.ref o), .val (.int (128 : Int32)), .val (.int (1 : Int32)), .val (.int (2 : Int32)), .val (.int (1 : Int32))] [(.int (1 : Int32)), (.int (1 : Int32)), (.ref tl)])) rfl (hb hby d1_71) rfl (by decide) (cap := 1) (by decide) (by decide) (by decide) (by decide) (ad := "[J") (by decide)
  obtain ⟨t1, gt1⟩ : ∃ z, z = h7.size := ⟨_, rfl⟩
  rw [← gt1] at A_t1 EX_t1 st9
  have lo_t1 : o < t1 := Nat.lt_of_lt_of_le EO7.lt (Nat.le_of_eq gt1.symm)
  have lt_t1 : tl < t1 := Nat.lt_of_lt_of_le AT7.lt (Nat.le_of_eq gt1.symm)
  have l01 : t0 < t1 := Nat.lt_of_lt_of_le A07.lt (Nat.le_of_eq gt1.symm)
  have FX9_capacity := FX7_capacity.ext E9
  have FX9_levels := FX7_levels.ext E9
  have EO9 := EO7.ext E9
  have AT9 := AT7.ext E9
  have A09 := A07.ext E9
  refine Go.step st9 ?_
  show Go _ _ _ _ (T9.setTop (mkF m 73 #[.val (.ref o), .val (.int (128 : Int32)), .val (.int (1 : Int32)), .val (.int (2 : Int32)), .val (.int (1 : Int32))] [(.ref t1), (.int (1 : Int32)), (.ref tl)]))
  obtain ⟨T10, h10, X10, e10, W10, st10⟩ := stR X9 hx hZ e9 AT9 (j := (1 : Int32)) (own_in (i := 1) (Nat.le_of_ble_eq_true rfl) (by decide)) rfl (Sto.ofVA AT9 rfl O_tl (Ins.self EX_t1)) (g := (mkF m 73 #[.val (.ref o), .val (.int (128 : Int32)), .val (.int (1 : Int32)), .val (.int (2 : Int32)), .val (.int (1 : Int32))] [(.ref t1), (.int (1 : Int32)), (.ref tl)])) rfl rfl (hb hby d1_73)
  have NF10 := Fr.snoc X10 NF7 s_tl
  have FX10_capacity := FX9_capacity.other W10 (Or.inl n_tl)
  have FX10_levels := FX9_levels.other W10 (Or.inl n_tl)
  have EO10 := EO9.wr W10
  have AT10 := AT9.same W10
  have A010 := A09.other W10 (Nat.ne_of_gt lt_t0)
  have A110 := A_t1.other W10 (Nat.ne_of_gt lt_t1)
  refine Go.step st10 ?_
  show Go _ _ _ _ (T10.setTop (mkF m 74 #[.val (.ref o), .val (.int (128 : Int32)), .val (.int (1 : Int32)), .val (.int (2 : Int32)), .val (.int (1 : Int32))] []))
  refine Go.step (fun _ k => XS.iloadN X10.here hx rfl (hb hby d1_74) rfl k) ?_
  show Go _ _ _ _ (T10.setTop (mkF m 75 #[.val (.ref o), .val (.int (128 : Int32)), .val (.int (1 : Int32)), .val (.int (2 : Int32)), .val (.int (1 : Int32))] [(.int (1 : Int32))]))
  refine Go.step (fun _ k => XS.bipush X10.here hx rfl (hb hby d1_75) k) ?_
  show Go _ _ _ _ (T10.setTop (mkF m 77 #[.val (.ref o), .val (.int (128 : Int32)), .val (.int (1 : Int32)), .val (.int (2 : Int32)), .val (.int (1 : Int32))] [(.int (63 : Int32)), (.int (1 : Int32))]))
  refine Go.step (fun _ k => XS.iadd X10.here hx rfl (hb hby d1_77) rfl k) ?_
  show Go _ _ _ _ (T10.setTop (mkF m 78 #[.val (.ref o), .val (.int (128 : Int32)), .val (.int (1 : Int32)), .val (.int (2 : Int32)), .val (.int (1 : Int32))] [(.int ((1 : Int32) + (63 : Int32)))]))
  rw [(by decide : ((1 : Int32) + (63 : Int32)) = (64 : Int32))]
  show Go _ _ _ _ (T10.setTop (mkF m 78 #[.val (.ref o), .val (.int (128 : Int32)), .val (.int (1 : Int32)), .val (.int (2 : Int32)), .val (.int (1 : Int32))] [(.int (64 : Int32))]))
  refine Go.step (fun _ k => XS.bipush X10.here hx rfl (hb hby d1_78) k) ?_
  show Go _ _ _ _ (T10.setTop (mkF m 80 #[.val (.ref o), .val (.int (128 : Int32)), .val (.int (1 : Int32)), .val (.int (2 : Int32)), .val (.int (1 : Int32))] [(.int (6 : Int32)), (.int (64 : Int32))]))
  refine Go.step (fun _ k => XS.iushr X10.here hx rfl (hb hby d1_80) rfl k) ?_
  show Go _ _ _ _ (T10.setTop (mkF m 81 #[.val (.ref o), .val (.int (128 : Int32)), .val (.int (1 : Int32)), .val (.int (2 : Int32)), .val (.int (1 : Int32))] [(.int (((64 : Int32).toUInt32 >>> ((6 : Int32) &&& 31).toUInt32).toInt32))]))
  rw [(by decide : (((64 : Int32).toUInt32 >>> ((6 : Int32) &&& 31).toUInt32).toInt32) = (1 : Int32))]
  show Go _ _ _ _ (T10.setTop (mkF m 81 #[.val (.ref o), .val (.int (128 : Int32)), .val (.int (1 : Int32)), .val (.int (2 : Int32)), .val (.int (1 : Int32))] [(.int (1 : Int32))]))
  refine Go.step (fun _ k => XS.istoreN X10.here hx rfl (hb hby d1_81) rfl (l' := #[.val (.ref o), .val (.int (128 : Int32)), .val (.int (1 : Int32)), .val (.int (2 : Int32)), .val (.int (1 : Int32))]) rfl k) ?_
  show Go _ _ _ _ (T10.setTop (mkF m 82 #[.val (.ref o), .val (.int (128 : Int32)), .val (.int (1 : Int32)), .val (.int (2 : Int32)), .val (.int (1 : Int32))] []))
  refine Go.step (fun _ k => XS.iinc X10.here hx rfl (hb hby d1_82) rfl (l' := #[.val (.ref o), .val (.int (128 : Int32)), .val (.int (1 : Int32)), .val (.int (2 : Int32)), .val (.int (2 : Int32))]) rfl k) ?_
  show Go _ _ _ _ (T10.setTop (mkF m 85 #[.val (.ref o), .val (.int (128 : Int32)), .val (.int (1 : Int32)), .val (.int (2 : Int32)), .val (.int (2 : Int32))] []))
  refine Go.step (fun _ k => XS.goto X10.here hx rfl (pc0 := 85) (pc' := 58) rfl (hb hby d1_85) (by decide) (by decide) k) ?_
  show Go _ _ _ _ (T10.setTop (mkF m 58 #[.val (.ref o), .val (.int (128 : Int32)), .val (.int (1 : Int32)), .val (.int (2 : Int32)), .val (.int (2 : Int32))] []))
  refine Go.step (fun _ k => XS.iload X10.here hx rfl (hb hby d1_58) rfl k) ?_
  show Go _ _ _ _ (T10.setTop (mkF m 60 #[.val (.ref o), .val (.int (128 : Int32)), .val (.int (1 : Int32)), .val (.int (2 : Int32)), .val (.int (2 : Int32))] [(.int (2 : Int32))]))
  refine Go.step (fun _ k => XS.iloadN X10.here hx rfl (hb hby d1_60) rfl k) ?_
  show Go _ _ _ _ (T10.setTop (mkF m 61 #[.val (.ref o), .val (.int (128 : Int32)), .val (.int (1 : Int32)), .val (.int (2 : Int32)), .val (.int (2 : Int32))] [(.int (2 : Int32)), (.int (2 : Int32))]))
  refine Go.step (fun _ k => XS.icmpYes X10.here hx rfl (pc0 := 61) (pc' := 88) rfl (hb hby d1_61) rfl (flt (by decide : ¬ ((2 : Int32) < (2 : Int32)))).2.1 (by decide) (by decide) k) ?_
  show Go _ _ _ _ (T10.setTop (mkF m 88 #[.val (.ref o), .val (.int (128 : Int32)), .val (.int (1 : Int32)), .val (.int (2 : Int32)), .val (.int (2 : Int32))] []))
  refine Go.step (fun _ k => XS.aloadN X10.here hx rfl (hb hby d1_88) rfl rfl k) ?_
  show Go _ _ _ _ (T10.setTop (mkF m 89 #[.val (.ref o), .val (.int (128 : Int32)), .val (.int (1 : Int32)), .val (.int (2 : Int32)), .val (.int (2 : Int32))] [(.ref o)]))
  have gt0_ : n0 ≤ t0 := Nat.le_trans s_tl (Nat.le_of_lt lt_t0)
  have P0 : Lv Z h10 t0 2 (fun _ => false) := Lv.fresh A010 (by decide)
  have P1 : Lv Z h10 t1 1 (fun _ => false) := Lv.fresh A110 (by decide)
  have gt1_ : n0 ≤ t1 := Nat.le_trans s_tl (Nat.le_of_lt lt_t1)
  refine goV X10 hx hZ hown (hw _ (List.mem_of_getElem? (i := 18) rfl)) (hw _ (List.mem_of_getElem? (i := 19) rfl)) (notFace_of_selects (args := #[]) (mvT hZ (hw _ (List.mem_of_getElem? (i := 21) rfl)))) (hw _ (List.mem_of_getElem? (i := 21) rfl)) (hw _ (List.mem_of_getElem? (i := 20) rfl)) (hw _ (List.mem_of_getElem? (i := 3) rfl)) (hw _ (List.mem_of_getElem? (i := 22) rfl)) (by decide) (rmCl2 l Z a0 hw [] h10 o tl t0 t1 2 _ rfl rfl rfl P1 EO10 FX10_levels AT10 P0 (by decide) (by decide) n0 gt0_ gt1_ (Nat.ne_of_lt lo_t0) (Nat.ne_of_lt lt_t0) (Nat.ne_of_lt lo_t1) (Nat.ne_of_lt lt_t1) (Nat.ne_of_lt l01)) e10 EO10 (by rw [hml]; rfl) [] [] rfl pd3 rfl rfl 0 rfl (hb hby d1_89) (by decide) (by decide) (by decide) (by decide) fun TC LC vC qC XC => ?_
  obtain ⟨rfl, NC, KC, PC0, PC1⟩ := qC
  have OB : Obj Z TC.heap o 2 (fun _ => false) n0 := ⟨tl, t0, _, EO10.keep KC, FX10_capacity.keep KC (ninS (Nat.ne_of_lt lo_t0) (ninS (Nat.ne_of_lt lo_t1) nin0)), FX10_levels.keep KC (ninS (Nat.ne_of_lt lo_t0) (ninS (Nat.ne_of_lt lo_t1) nin0)), ⟨KC.2.1 _ _ AT10.1 (ninS (Nat.ne_of_lt lt_t0) (ninS (Nat.ne_of_lt lt_t1) nin0)), AT10.2⟩, rfl, PC0, gt0_, Nat.ne_of_lt lo_t0, Nat.ne_of_lt lt_t0, Or.inr ⟨rfl, by decide, t1, rfl, Nat.ne_of_gt l01, PC1⟩⟩
  show Go _ _ _ _ (TC.setTop (mkF m 92 #[.val (.ref o), .val (.int (128 : Int32)), .val (.int (1 : Int32)), .val (.int (2 : Int32)), .val (.int (2 : Int32))] []))
  exact leafV XC hx hret hlk (hb hby d1_92) ⟨rfl, (Fr.app NF10 NC), OB⟩ (by decide) (by decide)
set_option maxRecDepth 65536 in
set_option maxHeartbeats 40000000 in
theorem rmC3 (l : Launch) (Z : State) (a0 : Array Value) (hw : ∀ d ∈ tables_1, d.before a0 Z = true) (ws : List Jvm.Cond)  (h0 : Heap) (o : Addr) (n0 : Nat) (Z0 : n0 ≤ h0.size) (g0 : n0 ≤ o) (E0 : Exa Z h0 o "com/example/prefix_scope/prefixscope/NumberSet") (FC0 : Fld Z h0 o "com/example/prefix_scope/prefixscope/NumberSet" "capacity" "I" (.int (0 : Int32))) (FL0 : Fld Z h0 o "com/example/prefix_scope/prefixscope/NumberSet" "levels" "[[J" .null) : Con l Z (⟨"com/example/prefix_scope/prefixscope/NumberSet", "<init>", "(I)V"⟩ : MethodName) prog_9_method_1_code 5 none ws ({ frames := 2, cells := 3, slots := 7, locals := 35 } : Room) #[(.ref o), (.int (192 : Int32))] h0 (fun v h L => v = none ∧ Fr n0 L ∧ Obj Z h o 3 (fun _ => false) n0) := by
  refine Con.of pn1 fun p e s m below meth c s₁ hZ hx hby hml hown hret hlk hnm X0 e0 => ?_
  rw [ef1]
  show Go _ _ _ _ (s₁.setTop (mkF m 0 #[.val (.ref o), .val (.int (192 : Int32)), .unset, .unset, .unset] []))
  refine Go.step (fun _ k => XS.aloadN X0.here hx rfl (hb hby d1_0) rfl rfl k) ?_
  show Go _ _ _ _ (s₁.setTop (mkF m 1 #[.val (.ref o), .val (.int (192 : Int32)), .unset, .unset, .unset] [(.ref o)]))
  obtain ⟨T1, X1, e1, st1⟩ := initO X0 hx hZ hown (hw _ (List.mem_of_getElem? (i := 7) rfl)) (hw _ (List.mem_of_getElem? (i := 8) rfl)) (hw _ (List.mem_of_getElem? (i := 9) rfl)) e0 (g := (mkF m 1 #[.val (.ref o), .val (.int (192 : Int32)), .unset, .unset, .unset] [(.ref o)])) rfl (by rw [hml]; rfl) rfl (hb hby d1_1) (by decide) (W := 0) (by show 2 * 0 + _ ≤ _; exact Nat.le_of_eq rfl) (by decide)
  refine Go.step st1 ?_
  show Go _ _ _ _ (T1.setTop (mkF m 4 #[.val (.ref o), .val (.int (192 : Int32)), .unset, .unset, .unset] []))
  refine Go.step (fun _ k => XS.iloadN X1.here hx rfl (hb hby d1_4) rfl k) ?_
  show Go _ _ _ _ (T1.setTop (mkF m 5 #[.val (.ref o), .val (.int (192 : Int32)), .unset, .unset, .unset] [(.int (192 : Int32))]))
  refine Go.step (fun _ k => XS.bipush X1.here hx rfl (hb hby d1_5) k) ?_
  show Go _ _ _ _ (T1.setTop (mkF m 7 #[.val (.ref o), .val (.int (192 : Int32)), .unset, .unset, .unset] [(.int (63 : Int32)), (.int (192 : Int32))]))
  refine Go.step (fun _ k => XS.iadd X1.here hx rfl (hb hby d1_7) rfl k) ?_
  show Go _ _ _ _ (T1.setTop (mkF m 8 #[.val (.ref o), .val (.int (192 : Int32)), .unset, .unset, .unset] [(.int ((192 : Int32) + (63 : Int32)))]))
  rw [(by decide : ((192 : Int32) + (63 : Int32)) = (255 : Int32))]
  show Go _ _ _ _ (T1.setTop (mkF m 8 #[.val (.ref o), .val (.int (192 : Int32)), .unset, .unset, .unset] [(.int (255 : Int32))]))
  refine Go.step (fun _ k => XS.bipush X1.here hx rfl (hb hby d1_8) k) ?_
  show Go _ _ _ _ (T1.setTop (mkF m 10 #[.val (.ref o), .val (.int (192 : Int32)), .unset, .unset, .unset] [(.int (6 : Int32)), (.int (255 : Int32))]))
  refine Go.step (fun _ k => XS.iushr X1.here hx rfl (hb hby d1_10) rfl k) ?_
  show Go _ _ _ _ (T1.setTop (mkF m 11 #[.val (.ref o), .val (.int (192 : Int32)), .unset, .unset, .unset] [(.int (((255 : Int32).toUInt32 >>> ((6 : Int32) &&& 31).toUInt32).toInt32))]))
  rw [(by decide : (((255 : Int32).toUInt32 >>> ((6 : Int32) &&& 31).toUInt32).toInt32) = (3 : Int32))]
  show Go _ _ _ _ (T1.setTop (mkF m 11 #[.val (.ref o), .val (.int (192 : Int32)), .unset, .unset, .unset] [(.int (3 : Int32))]))
  refine Go.step (fun _ k => XS.istoreN X1.here hx rfl (hb hby d1_11) rfl (l' := #[.val (.ref o), .val (.int (192 : Int32)), .val (.int (3 : Int32)), .unset, .unset]) rfl k) ?_
  show Go _ _ _ _ (T1.setTop (mkF m 12 #[.val (.ref o), .val (.int (192 : Int32)), .val (.int (3 : Int32)), .unset, .unset] []))
  refine Go.step (fun _ k => XS.aloadN X1.here hx rfl (hb hby d1_12) rfl rfl k) ?_
  show Go _ _ _ _ (T1.setTop (mkF m 13 #[.val (.ref o), .val (.int (192 : Int32)), .val (.int (3 : Int32)), .unset, .unset] [(.ref o)]))
  refine Go.step (fun _ k => XS.iloadN X1.here hx rfl (hb hby d1_13) rfl k) ?_
  show Go _ _ _ _ (T1.setTop (mkF m 14 #[.val (.ref o), .val (.int (192 : Int32)), .val (.int (3 : Int32)), .unset, .unset] [(.int (3 : Int32)), (.ref o)]))
  refine Go.step (fun _ k => XS.bipush X1.here hx rfl (hb hby d1_14) k) ?_
  show Go _ _ _ _ (T1.setTop (mkF m 16 #[.val (.ref o), .val (.int (192 : Int32)), .val (.int (3 : Int32)), .unset, .unset] [(.int (6 : Int32)), (.int (3 : Int32)), (.ref o)]))
  refine Go.step (fun _ k => XS.ishl X1.here hx rfl (hb hby d1_16) rfl k) ?_
  show Go _ _ _ _ (T1.setTop (mkF m 17 #[.val (.ref o), .val (.int (192 : Int32)), .val (.int (3 : Int32)), .unset, .unset] [(.int ((3 : Int32) <<< ((6 : Int32) &&& 31))), (.ref o)]))
  rw [(by decide : ((3 : Int32) <<< ((6 : Int32) &&& 31)) = (192 : Int32))]
  show Go _ _ _ _ (T1.setTop (mkF m 17 #[.val (.ref o), .val (.int (192 : Int32)), .val (.int (3 : Int32)), .unset, .unset] [(.int (192 : Int32)), (.ref o)]))
  obtain ⟨T2, h2, X2, e2, W2, st2⟩ := putF X1 hx hZ hown (host := "") (Or.inl (hw _ (List.mem_of_getElem? (i := 10) rfl))) Via.refl e1 FC0 E0 (Or.inr ⟨(hw _ (List.mem_of_getElem? (i := 11) rfl)), rfl, hnm⟩) (hw _ (List.mem_of_getElem? (i := 2) rfl)) (ty := .int) (by decide) rfl rfl (g := (mkF m 17 #[.val (.ref o), .val (.int (192 : Int32)), .val (.int (3 : Int32)), .unset, .unset] [(.int (192 : Int32)), (.ref o)])) rfl rfl (hb hby d1_17)
  have F2_capacity := FC0.same W2
  have F2_levels := FL0.other W2 (Or.inr (slot_ne (Or.inr (hw _ (List.mem_of_getElem? (i := 15) rfl))) (Or.inr (hw _ (List.mem_of_getElem? (i := 11) rfl))) (by decide) (t := (.array (.array .long))) (t' := .int) (by decide) (by decide)))
  have E_2 := E0.wr W2
  have NF2 := Fr.snoc X2 (Fr.nil n0) g0
  refine Go.step st2 ?_
  show Go _ _ _ _ (T2.setTop (mkF m 20 #[.val (.ref o), .val (.int (192 : Int32)), .val (.int (3 : Int32)), .unset, .unset] []))
  refine Go.step (fun _ k => XS.iconst X2.here hx rfl (hb hby d1_20) k) ?_
  show Go _ _ _ _ (T2.setTop (mkF m 21 #[.val (.ref o), .val (.int (192 : Int32)), .val (.int (3 : Int32)), .unset, .unset] [(.int (1 : Int32))]))
  refine Go.step (fun _ k => XS.istoreN X2.here hx rfl (hb hby d1_21) rfl (l' := #[.val (.ref o), .val (.int (192 : Int32)), .val (.int (3 : Int32)), .val (.int (1 : Int32)), .unset]) rfl k) ?_
  show Go _ _ _ _ (T2.setTop (mkF m 22 #[.val (.ref o), .val (.int (192 : Int32)), .val (.int (3 : Int32)), .val (.int (1 : Int32)), .unset] []))
  refine Go.step (fun _ k => XS.iloadN X2.here hx rfl (hb hby d1_22) rfl k) ?_
  show Go _ _ _ _ (T2.setTop (mkF m 23 #[.val (.ref o), .val (.int (192 : Int32)), .val (.int (3 : Int32)), .val (.int (1 : Int32)), .unset] [(.int (3 : Int32))]))
  refine Go.step (fun _ k => XS.istore X2.here hx rfl (hb hby d1_23) rfl (l' := #[.val (.ref o), .val (.int (192 : Int32)), .val (.int (3 : Int32)), .val (.int (1 : Int32)), .val (.int (3 : Int32))]) rfl k) ?_
  show Go _ _ _ _ (T2.setTop (mkF m 25 #[.val (.ref o), .val (.int (192 : Int32)), .val (.int (3 : Int32)), .val (.int (1 : Int32)), .val (.int (3 : Int32))] []))
  refine Go.step (fun _ k => XS.iload X2.here hx rfl (hb hby d1_25) rfl k) ?_
  show Go _ _ _ _ (T2.setTop (mkF m 27 #[.val (.ref o), .val (.int (192 : Int32)), .val (.int (3 : Int32)), .val (.int (1 : Int32)), .val (.int (3 : Int32))] [(.int (3 : Int32))]))
  refine Go.step (fun _ k => XS.iconst X2.here hx rfl (hb hby d1_27) k) ?_
  show Go _ _ _ _ (T2.setTop (mkF m 28 #[.val (.ref o), .val (.int (192 : Int32)), .val (.int (3 : Int32)), .val (.int (1 : Int32)), .val (.int (3 : Int32))] [(.int (1 : Int32)), (.int (3 : Int32))]))
  refine Go.step (fun _ k => XS.icmpNo X2.here hx rfl (hb hby d1_28) rfl (tlt (by decide : ((1 : Int32) < (3 : Int32)))).2.2.2 k) ?_
  show Go _ _ _ _ (T2.setTop (mkF m 31 #[.val (.ref o), .val (.int (192 : Int32)), .val (.int (3 : Int32)), .val (.int (1 : Int32)), .val (.int (3 : Int32))] []))
  refine Go.step (fun _ k => XS.iinc X2.here hx rfl (hb hby d1_31) rfl (l' := #[.val (.ref o), .val (.int (192 : Int32)), .val (.int (3 : Int32)), .val (.int (2 : Int32)), .val (.int (3 : Int32))]) rfl k) ?_
  show Go _ _ _ _ (T2.setTop (mkF m 34 #[.val (.ref o), .val (.int (192 : Int32)), .val (.int (3 : Int32)), .val (.int (2 : Int32)), .val (.int (3 : Int32))] []))
  refine Go.step (fun _ k => XS.iload X2.here hx rfl (hb hby d1_34) rfl k) ?_
  show Go _ _ _ _ (T2.setTop (mkF m 36 #[.val (.ref o), .val (.int (192 : Int32)), .val (.int (3 : Int32)), .val (.int (2 : Int32)), .val (.int (3 : Int32))] [(.int (3 : Int32))]))
  refine Go.step (fun _ k => XS.bipush X2.here hx rfl (hb hby d1_36) k) ?_
  show Go _ _ _ _ (T2.setTop (mkF m 38 #[.val (.ref o), .val (.int (192 : Int32)), .val (.int (3 : Int32)), .val (.int (2 : Int32)), .val (.int (3 : Int32))] [(.int (63 : Int32)), (.int (3 : Int32))]))
  refine Go.step (fun _ k => XS.iadd X2.here hx rfl (hb hby d1_38) rfl k) ?_
  show Go _ _ _ _ (T2.setTop (mkF m 39 #[.val (.ref o), .val (.int (192 : Int32)), .val (.int (3 : Int32)), .val (.int (2 : Int32)), .val (.int (3 : Int32))] [(.int ((3 : Int32) + (63 : Int32)))]))
  rw [(by decide : ((3 : Int32) + (63 : Int32)) = (66 : Int32))]
  show Go _ _ _ _ (T2.setTop (mkF m 39 #[.val (.ref o), .val (.int (192 : Int32)), .val (.int (3 : Int32)), .val (.int (2 : Int32)), .val (.int (3 : Int32))] [(.int (66 : Int32))]))
  refine Go.step (fun _ k => XS.bipush X2.here hx rfl (hb hby d1_39) k) ?_
  show Go _ _ _ _ (T2.setTop (mkF m 41 #[.val (.ref o), .val (.int (192 : Int32)), .val (.int (3 : Int32)), .val (.int (2 : Int32)), .val (.int (3 : Int32))] [(.int (6 : Int32)), (.int (66 : Int32))]))
  refine Go.step (fun _ k => XS.iushr X2.here hx rfl (hb hby d1_41) rfl k) ?_
  show Go _ _ _ _ (T2.setTop (mkF m 42 #[.val (.ref o), .val (.int (192 : Int32)), .val (.int (3 : Int32)), .val (.int (2 : Int32)), .val (.int (3 : Int32))] [(.int (((66 : Int32).toUInt32 >>> ((6 : Int32) &&& 31).toUInt32).toInt32))]))
  rw [(by decide : (((66 : Int32).toUInt32 >>> ((6 : Int32) &&& 31).toUInt32).toInt32) = (1 : Int32))]
  show Go _ _ _ _ (T2.setTop (mkF m 42 #[.val (.ref o), .val (.int (192 : Int32)), .val (.int (3 : Int32)), .val (.int (2 : Int32)), .val (.int (3 : Int32))] [(.int (1 : Int32))]))
  refine Go.step (fun _ k => XS.istore X2.here hx rfl (hb hby d1_42) rfl (l' := #[.val (.ref o), .val (.int (192 : Int32)), .val (.int (3 : Int32)), .val (.int (2 : Int32)), .val (.int (1 : Int32))]) rfl k) ?_
  show Go _ _ _ _ (T2.setTop (mkF m 44 #[.val (.ref o), .val (.int (192 : Int32)), .val (.int (3 : Int32)), .val (.int (2 : Int32)), .val (.int (1 : Int32))] []))
  refine Go.step (fun _ k => XS.goto X2.here hx rfl (pc0 := 44) (pc' := 25) rfl (hb hby d1_44) (by decide) (by decide) k) ?_
  show Go _ _ _ _ (T2.setTop (mkF m 25 #[.val (.ref o), .val (.int (192 : Int32)), .val (.int (3 : Int32)), .val (.int (2 : Int32)), .val (.int (1 : Int32))] []))
  refine Go.step (fun _ k => XS.iload X2.here hx rfl (hb hby d1_25) rfl k) ?_
  show Go _ _ _ _ (T2.setTop (mkF m 27 #[.val (.ref o), .val (.int (192 : Int32)), .val (.int (3 : Int32)), .val (.int (2 : Int32)), .val (.int (1 : Int32))] [(.int (1 : Int32))]))
  refine Go.step (fun _ k => XS.iconst X2.here hx rfl (hb hby d1_27) k) ?_
  show Go _ _ _ _ (T2.setTop (mkF m 28 #[.val (.ref o), .val (.int (192 : Int32)), .val (.int (3 : Int32)), .val (.int (2 : Int32)), .val (.int (1 : Int32))] [(.int (1 : Int32)), (.int (1 : Int32))]))
  refine Go.step (fun _ k => XS.icmpYes X2.here hx rfl (pc0 := 28) (pc' := 47) rfl (hb hby d1_28) rfl (flt (by decide : ¬ ((1 : Int32) < (1 : Int32)))).2.2.2 (by decide) (by decide) k) ?_
  show Go _ _ _ _ (T2.setTop (mkF m 47 #[.val (.ref o), .val (.int (192 : Int32)), .val (.int (3 : Int32)), .val (.int (2 : Int32)), .val (.int (1 : Int32))] []))
  refine Go.step (fun _ k => XS.aloadN X2.here hx rfl (hb hby d1_47) rfl rfl k) ?_
  show Go _ _ _ _ (T2.setTop (mkF m 48 #[.val (.ref o), .val (.int (192 : Int32)), .val (.int (3 : Int32)), .val (.int (2 : Int32)), .val (.int (1 : Int32))] [(.ref o)]))
  refine Go.step (fun _ k => XS.iloadN X2.here hx rfl (hb hby d1_48) rfl k) ?_
  show Go _ _ _ _ (T2.setTop (mkF m 49 #[.val (.ref o), .val (.int (192 : Int32)), .val (.int (3 : Int32)), .val (.int (2 : Int32)), .val (.int (1 : Int32))] [(.int (2 : Int32)), (.ref o)]))
  obtain ⟨T3, h3, kT, X3, e3, E3, A_tl, EX_tl, O_tl, st3⟩ := newRA X2 hx hZ hown (C := "[J") (ty := .long) (by decide) (hw _ (List.mem_of_getElem? (i := 12) rfl)) (hw _ (List.mem_of_getElem? (i := 13) rfl)) e2 (g := (mkF m 49 #[.val (.ref o), .val (.int (192 : Int32)), .val (.int (3 : Int32)), .val (.int (2 : Int32)), .val (.int (1 : Int32))] [(.int (2 : Int32)), (.ref o)])) rfl (hb hby d1_49) rfl (by decide) (cap := 2) (by decide) (by decide) (by decide) (by decide) (ad := "[[J") (by decide)
  obtain ⟨tl, gtl⟩ : ∃ z, z = h2.size := ⟨_, rfl⟩
  rw [← gtl] at A_tl EX_tl st3
  have n_tl : o ≠ tl := Nat.ne_of_lt (Nat.lt_of_lt_of_le E_2.lt (Nat.le_of_eq gtl.symm))
  have s_tl : n0 ≤ tl := Nat.le_trans Z0 (Nat.le_trans (Nat.le_of_eq W2.size.symm) (Nat.le_of_eq gtl.symm))
  have FX3_capacity := F2_capacity.ext E3
  have FX3_levels := F2_levels.ext E3
  have EO3 := E_2.ext E3
  refine Go.step st3 ?_
  show Go _ _ _ _ (T3.setTop (mkF m 52 #[.val (.ref o), .val (.int (192 : Int32)), .val (.int (3 : Int32)), .val (.int (2 : Int32)), .val (.int (1 : Int32))] [(.ref tl), (.ref o)]))
  obtain ⟨T4, h4, X4, e4, W4, st4⟩ := putF X3 hx hZ hown (host := "") (Or.inl (hw _ (List.mem_of_getElem? (i := 14) rfl))) Via.refl e3 FX3_levels EO3 (Or.inr ⟨(hw _ (List.mem_of_getElem? (i := 15) rfl)), rfl, hnm⟩) (hw _ (List.mem_of_getElem? (i := 2) rfl)) (ty := (.array (.array .long))) (by decide) rfl rfl (g := (mkF m 52 #[.val (.ref o), .val (.int (192 : Int32)), .val (.int (3 : Int32)), .val (.int (2 : Int32)), .val (.int (1 : Int32))] [(.ref tl), (.ref o)])) rfl rfl (hb hby d1_52)
  have F4_capacity := FX3_capacity.other W4 (Or.inr (slot_ne (Or.inr (hw _ (List.mem_of_getElem? (i := 11) rfl))) (Or.inr (hw _ (List.mem_of_getElem? (i := 15) rfl))) (by decide) (t := .int) (t' := (.array (.array .long))) (by decide) (by decide)))
  have F4_levels := FX3_levels.same W4
  have E_4 := EO3.wr W4
  have NF4 := Fr.snoc X4 NF2 g0
  refine Go.step st4 ?_
  have AT4 := A_tl.other W4 (Ne.symm n_tl)
  show Go _ _ _ _ (T4.setTop (mkF m 55 #[.val (.ref o), .val (.int (192 : Int32)), .val (.int (3 : Int32)), .val (.int (2 : Int32)), .val (.int (1 : Int32))] []))
  refine Go.step (fun _ k => XS.iconst X4.here hx rfl (hb hby d1_55) k) ?_
  show Go _ _ _ _ (T4.setTop (mkF m 56 #[.val (.ref o), .val (.int (192 : Int32)), .val (.int (3 : Int32)), .val (.int (2 : Int32)), .val (.int (1 : Int32))] [(.int (0 : Int32))]))
  refine Go.step (fun _ k => XS.istore X4.here hx rfl (hb hby d1_56) rfl (l' := #[.val (.ref o), .val (.int (192 : Int32)), .val (.int (3 : Int32)), .val (.int (2 : Int32)), .val (.int (0 : Int32))]) rfl k) ?_
  show Go _ _ _ _ (T4.setTop (mkF m 58 #[.val (.ref o), .val (.int (192 : Int32)), .val (.int (3 : Int32)), .val (.int (2 : Int32)), .val (.int (0 : Int32))] []))
  refine Go.step (fun _ k => XS.iload X4.here hx rfl (hb hby d1_58) rfl k) ?_
  show Go _ _ _ _ (T4.setTop (mkF m 60 #[.val (.ref o), .val (.int (192 : Int32)), .val (.int (3 : Int32)), .val (.int (2 : Int32)), .val (.int (0 : Int32))] [(.int (0 : Int32))]))
  refine Go.step (fun _ k => XS.iloadN X4.here hx rfl (hb hby d1_60) rfl k) ?_
  show Go _ _ _ _ (T4.setTop (mkF m 61 #[.val (.ref o), .val (.int (192 : Int32)), .val (.int (3 : Int32)), .val (.int (2 : Int32)), .val (.int (0 : Int32))] [(.int (2 : Int32)), (.int (0 : Int32))]))
  refine Go.step (fun _ k => XS.icmpNo X4.here hx rfl (hb hby d1_61) rfl (tlt (by decide : ((0 : Int32) < (2 : Int32)))).2.1 k) ?_
  show Go _ _ _ _ (T4.setTop (mkF m 64 #[.val (.ref o), .val (.int (192 : Int32)), .val (.int (3 : Int32)), .val (.int (2 : Int32)), .val (.int (0 : Int32))] []))
  refine Go.step (fun _ k => XS.aloadN X4.here hx rfl (hb hby d1_64) rfl rfl k) ?_
  show Go _ _ _ _ (T4.setTop (mkF m 65 #[.val (.ref o), .val (.int (192 : Int32)), .val (.int (3 : Int32)), .val (.int (2 : Int32)), .val (.int (0 : Int32))] [(.ref o)]))
  obtain ⟨T5, X5, e5, st5⟩ := getF X4 hx hZ hown (host := "") (Or.inl (hw _ (List.mem_of_getElem? (i := 14) rfl))) Via.refl e4 F4_levels (g := (mkF m 65 #[.val (.ref o), .val (.int (192 : Int32)), .val (.int (3 : Int32)), .val (.int (2 : Int32)), .val (.int (0 : Int32))] [(.ref o)])) rfl rfl (hb hby d1_65)
  refine Go.step st5 ?_
  show Go _ _ _ _ (T5.setTop (mkF m 68 #[.val (.ref o), .val (.int (192 : Int32)), .val (.int (3 : Int32)), .val (.int (2 : Int32)), .val (.int (0 : Int32))] [(.ref tl)]))
  refine Go.step (fun _ k => XS.iload X5.here hx rfl (hb hby d1_68) rfl k) ?_
  show Go _ _ _ _ (T5.setTop (mkF m 70 #[.val (.ref o), .val (.int (192 : Int32)), .val (.int (3 : Int32)), .val (.int (2 : Int32)), .val (.int (0 : Int32))] [(.int (0 : Int32)), (.ref tl)]))
  refine Go.step (fun _ k => XS.iloadN X5.here hx rfl (hb hby d1_70) rfl k) ?_
  show Go _ _ _ _ (T5.setTop (mkF m 71 #[.val (.ref o), .val (.int (192 : Int32)), .val (.int (3 : Int32)), .val (.int (2 : Int32)), .val (.int (0 : Int32))] [(.int (3 : Int32)), (.int (0 : Int32)), (.ref tl)]))
  obtain ⟨T6, h6, kk0, X6, e6, E6, A_t0, EX_t0, st6⟩ := newPE X5 hx hZ (hw _ (List.mem_of_getElem? (i := 16) rfl)) e5 (g := (mkF m 71 #[.val (.ref o), .val (.int (192 : Int32)), .val (.int (3 : Int32)), .val (.int (2 : Int32)), .val (.int (0 : Int32))] [(.int (3 : Int32)), (.int (0 : Int32)), (.ref tl)])) rfl (hb hby d1_71) rfl (by decide) (cap := 3) (by decide) (by decide) (by decide) (by decide) (ad := "[J") (by decide)
  obtain ⟨t0, gt0⟩ : ∃ z, z = h4.size := ⟨_, rfl⟩
  rw [← gt0] at A_t0 EX_t0 st6
  have lo_t0 : o < t0 := Nat.lt_of_lt_of_le E_4.lt (Nat.le_of_eq gt0.symm)
  have lt_t0 : tl < t0 := Nat.lt_of_lt_of_le AT4.lt (Nat.le_of_eq gt0.symm)
  have FX6_capacity := F4_capacity.ext E6
  have FX6_levels := F4_levels.ext E6
  have EO6 := E_4.ext E6
  have AT6 := AT4.ext E6
  refine Go.step st6 ?_
  show Go _ _ _ _ (T6.setTop (mkF m 73 #[.val (.ref o), .val (.int (192 : Int32)), .val (.int (3 : Int32)), .val (.int (2 : Int32)), .val (.int (0 : Int32))] [(.ref t0), (.int (0 : Int32)), (.ref tl)]))
  obtain ⟨T7, h7, X7, e7, W7, st7⟩ := stR X6 hx hZ e6 AT6 (j := (0 : Int32)) (own_in (i := 0) (Nat.le_of_ble_eq_true rfl) (by decide)) rfl (Sto.ofVA AT6 rfl O_tl (Ins.self EX_t0)) (g := (mkF m 73 #[.val (.ref o), .val (.int (192 : Int32)), .val (.int (3 : Int32)), .val (.int (2 : Int32)), .val (.int (0 : Int32))] [(.ref t0), (.int (0 : Int32)), (.ref tl)])) rfl rfl (hb hby d1_73)
  have NF7 := Fr.snoc X7 NF4 s_tl
  have FX7_capacity := FX6_capacity.other W7 (Or.inl n_tl)
  have FX7_levels := FX6_levels.other W7 (Or.inl n_tl)
  have EO7 := EO6.wr W7
  have AT7 := AT6.same W7
  have A07 := A_t0.other W7 (Nat.ne_of_gt lt_t0)
  refine Go.step st7 ?_
  show Go _ _ _ _ (T7.setTop (mkF m 74 #[.val (.ref o), .val (.int (192 : Int32)), .val (.int (3 : Int32)), .val (.int (2 : Int32)), .val (.int (0 : Int32))] []))
  refine Go.step (fun _ k => XS.iloadN X7.here hx rfl (hb hby d1_74) rfl k) ?_
  show Go _ _ _ _ (T7.setTop (mkF m 75 #[.val (.ref o), .val (.int (192 : Int32)), .val (.int (3 : Int32)), .val (.int (2 : Int32)), .val (.int (0 : Int32))] [(.int (3 : Int32))]))
  refine Go.step (fun _ k => XS.bipush X7.here hx rfl (hb hby d1_75) k) ?_
  show Go _ _ _ _ (T7.setTop (mkF m 77 #[.val (.ref o), .val (.int (192 : Int32)), .val (.int (3 : Int32)), .val (.int (2 : Int32)), .val (.int (0 : Int32))] [(.int (63 : Int32)), (.int (3 : Int32))]))
  refine Go.step (fun _ k => XS.iadd X7.here hx rfl (hb hby d1_77) rfl k) ?_
  show Go _ _ _ _ (T7.setTop (mkF m 78 #[.val (.ref o), .val (.int (192 : Int32)), .val (.int (3 : Int32)), .val (.int (2 : Int32)), .val (.int (0 : Int32))] [(.int ((3 : Int32) + (63 : Int32)))]))
  rw [(by decide : ((3 : Int32) + (63 : Int32)) = (66 : Int32))]
  show Go _ _ _ _ (T7.setTop (mkF m 78 #[.val (.ref o), .val (.int (192 : Int32)), .val (.int (3 : Int32)), .val (.int (2 : Int32)), .val (.int (0 : Int32))] [(.int (66 : Int32))]))
  refine Go.step (fun _ k => XS.bipush X7.here hx rfl (hb hby d1_78) k) ?_
  show Go _ _ _ _ (T7.setTop (mkF m 80 #[.val (.ref o), .val (.int (192 : Int32)), .val (.int (3 : Int32)), .val (.int (2 : Int32)), .val (.int (0 : Int32))] [(.int (6 : Int32)), (.int (66 : Int32))]))
  refine Go.step (fun _ k => XS.iushr X7.here hx rfl (hb hby d1_80) rfl k) ?_
  show Go _ _ _ _ (T7.setTop (mkF m 81 #[.val (.ref o), .val (.int (192 : Int32)), .val (.int (3 : Int32)), .val (.int (2 : Int32)), .val (.int (0 : Int32))] [(.int (((66 : Int32).toUInt32 >>> ((6 : Int32) &&& 31).toUInt32).toInt32))]))
  rw [(by decide : (((66 : Int32).toUInt32 >>> ((6 : Int32) &&& 31).toUInt32).toInt32) = (1 : Int32))]
  show Go _ _ _ _ (T7.setTop (mkF m 81 #[.val (.ref o), .val (.int (192 : Int32)), .val (.int (3 : Int32)), .val (.int (2 : Int32)), .val (.int (0 : Int32))] [(.int (1 : Int32))]))
  refine Go.step (fun _ k => XS.istoreN X7.here hx rfl (hb hby d1_81) rfl (l' := #[.val (.ref o), .val (.int (192 : Int32)), .val (.int (1 : Int32)), .val (.int (2 : Int32)), .val (.int (0 : Int32))]) rfl k) ?_
  show Go _ _ _ _ (T7.setTop (mkF m 82 #[.val (.ref o), .val (.int (192 : Int32)), .val (.int (1 : Int32)), .val (.int (2 : Int32)), .val (.int (0 : Int32))] []))
  refine Go.step (fun _ k => XS.iinc X7.here hx rfl (hb hby d1_82) rfl (l' := #[.val (.ref o), .val (.int (192 : Int32)), .val (.int (1 : Int32)), .val (.int (2 : Int32)), .val (.int (1 : Int32))]) rfl k) ?_
  show Go _ _ _ _ (T7.setTop (mkF m 85 #[.val (.ref o), .val (.int (192 : Int32)), .val (.int (1 : Int32)), .val (.int (2 : Int32)), .val (.int (1 : Int32))] []))
  refine Go.step (fun _ k => XS.goto X7.here hx rfl (pc0 := 85) (pc' := 58) rfl (hb hby d1_85) (by decide) (by decide) k) ?_
  show Go _ _ _ _ (T7.setTop (mkF m 58 #[.val (.ref o), .val (.int (192 : Int32)), .val (.int (1 : Int32)), .val (.int (2 : Int32)), .val (.int (1 : Int32))] []))
  refine Go.step (fun _ k => XS.iload X7.here hx rfl (hb hby d1_58) rfl k) ?_
  show Go _ _ _ _ (T7.setTop (mkF m 60 #[.val (.ref o), .val (.int (192 : Int32)), .val (.int (1 : Int32)), .val (.int (2 : Int32)), .val (.int (1 : Int32))] [(.int (1 : Int32))]))
  refine Go.step (fun _ k => XS.iloadN X7.here hx rfl (hb hby d1_60) rfl k) ?_
  show Go _ _ _ _ (T7.setTop (mkF m 61 #[.val (.ref o), .val (.int (192 : Int32)), .val (.int (1 : Int32)), .val (.int (2 : Int32)), .val (.int (1 : Int32))] [(.int (2 : Int32)), (.int (1 : Int32))]))
  refine Go.step (fun _ k => XS.icmpNo X7.here hx rfl (hb hby d1_61) rfl (tlt (by decide : ((1 : Int32) < (2 : Int32)))).2.1 k) ?_
  show Go _ _ _ _ (T7.setTop (mkF m 64 #[.val (.ref o), .val (.int (192 : Int32)), .val (.int (1 : Int32)), .val (.int (2 : Int32)), .val (.int (1 : Int32))] []))
  refine Go.step (fun _ k => XS.aloadN X7.here hx rfl (hb hby d1_64) rfl rfl k) ?_
  show Go _ _ _ _ (T7.setTop (mkF m 65 #[.val (.ref o), .val (.int (192 : Int32)), .val (.int (1 : Int32)), .val (.int (2 : Int32)), .val (.int (1 : Int32))] [(.ref o)]))
  obtain ⟨T8, X8, e8, st8⟩ := getF X7 hx hZ hown (host := "") (Or.inl (hw _ (List.mem_of_getElem? (i := 14) rfl))) Via.refl e7 FX7_levels (g := (mkF m 65 #[.val (.ref o), .val (.int (192 : Int32)), .val (.int (1 : Int32)), .val (.int (2 : Int32)), .val (.int (1 : Int32))] [(.ref o)])) rfl rfl (hb hby d1_65)
  refine Go.step st8 ?_
  show Go _ _ _ _ (T8.setTop (mkF m 68 #[.val (.ref o), .val (.int (192 : Int32)), .val (.int (1 : Int32)), .val (.int (2 : Int32)), .val (.int (1 : Int32))] [(.ref tl)]))
  refine Go.step (fun _ k => XS.iload X8.here hx rfl (hb hby d1_68) rfl k) ?_
  show Go _ _ _ _ (T8.setTop (mkF m 70 #[.val (.ref o), .val (.int (192 : Int32)), .val (.int (1 : Int32)), .val (.int (2 : Int32)), .val (.int (1 : Int32))] [(.int (1 : Int32)), (.ref tl)]))
  refine Go.step (fun _ k => XS.iloadN X8.here hx rfl (hb hby d1_70) rfl k) ?_
  show Go _ _ _ _ (T8.setTop (mkF m 71 #[.val (.ref o), .val (.int (192 : Int32)), .val (.int (1 : Int32)), .val (.int (2 : Int32)), .val (.int (1 : Int32))] [(.int (1 : Int32)), (.int (1 : Int32)), (.ref tl)]))
  obtain ⟨T9, h9, kk1, X9, e9, E9, A_t1, EX_t1, st9⟩ := newPE X8 hx hZ (hw _ (List.mem_of_getElem? (i := 16) rfl)) e8 (g := (mkF m 71 #[.val (.ref o), .val (.int (192 : Int32)), .val (.int (1 : Int32)), .val (.int (2 : Int32)), .val (.int (1 : Int32))] [(.int (1 : Int32)), (.int (1 : Int32)), (.ref tl)])) rfl (hb hby d1_71) rfl (by decide) (cap := 1) (by decide) (by decide) (by decide) (by decide) (ad := "[J") (by decide)
  obtain ⟨t1, gt1⟩ : ∃ z, z = h7.size := ⟨_, rfl⟩
  rw [← gt1] at A_t1 EX_t1 st9
  have lo_t1 : o < t1 := Nat.lt_of_lt_of_le EO7.lt (Nat.le_of_eq gt1.symm)
  have lt_t1 : tl < t1 := Nat.lt_of_lt_of_le AT7.lt (Nat.le_of_eq gt1.symm)
  have l01 : t0 < t1 := Nat.lt_of_lt_of_le A07.lt (Nat.le_of_eq gt1.symm)
  have FX9_capacity := FX7_capacity.ext E9
  have FX9_levels := FX7_levels.ext E9
  have EO9 := EO7.ext E9
  have AT9 := AT7.ext E9
  have A09 := A07.ext E9
  refine Go.step st9 ?_
  show Go _ _ _ _ (T9.setTop (mkF m 73 #[.val (.ref o), .val (.int (192 : Int32)), .val (.int (1 : Int32)), .val (.int (2 : Int32)), .val (.int (1 : Int32))] [(.ref t1), (.int (1 : Int32)), (.ref tl)]))
  obtain ⟨T10, h10, X10, e10, W10, st10⟩ := stR X9 hx hZ e9 AT9 (j := (1 : Int32)) (own_in (i := 1) (Nat.le_of_ble_eq_true rfl) (by decide)) rfl (Sto.ofVA AT9 rfl O_tl (Ins.self EX_t1)) (g := (mkF m 73 #[.val (.ref o), .val (.int (192 : Int32)), .val (.int (1 : Int32)), .val (.int (2 : Int32)), .val (.int (1 : Int32))] [(.ref t1), (.int (1 : Int32)), (.ref tl)])) rfl rfl (hb hby d1_73)
  have NF10 := Fr.snoc X10 NF7 s_tl
  have FX10_capacity := FX9_capacity.other W10 (Or.inl n_tl)
  have FX10_levels := FX9_levels.other W10 (Or.inl n_tl)
  have EO10 := EO9.wr W10
  have AT10 := AT9.same W10
  have A010 := A09.other W10 (Nat.ne_of_gt lt_t0)
  have A110 := A_t1.other W10 (Nat.ne_of_gt lt_t1)
  refine Go.step st10 ?_
  show Go _ _ _ _ (T10.setTop (mkF m 74 #[.val (.ref o), .val (.int (192 : Int32)), .val (.int (1 : Int32)), .val (.int (2 : Int32)), .val (.int (1 : Int32))] []))
  refine Go.step (fun _ k => XS.iloadN X10.here hx rfl (hb hby d1_74) rfl k) ?_
  show Go _ _ _ _ (T10.setTop (mkF m 75 #[.val (.ref o), .val (.int (192 : Int32)), .val (.int (1 : Int32)), .val (.int (2 : Int32)), .val (.int (1 : Int32))] [(.int (1 : Int32))]))
  refine Go.step (fun _ k => XS.bipush X10.here hx rfl (hb hby d1_75) k) ?_
  show Go _ _ _ _ (T10.setTop (mkF m 77 #[.val (.ref o), .val (.int (192 : Int32)), .val (.int (1 : Int32)), .val (.int (2 : Int32)), .val (.int (1 : Int32))] [(.int (63 : Int32)), (.int (1 : Int32))]))
  refine Go.step (fun _ k => XS.iadd X10.here hx rfl (hb hby d1_77) rfl k) ?_
  show Go _ _ _ _ (T10.setTop (mkF m 78 #[.val (.ref o), .val (.int (192 : Int32)), .val (.int (1 : Int32)), .val (.int (2 : Int32)), .val (.int (1 : Int32))] [(.int ((1 : Int32) + (63 : Int32)))]))
  rw [(by decide : ((1 : Int32) + (63 : Int32)) = (64 : Int32))]
  show Go _ _ _ _ (T10.setTop (mkF m 78 #[.val (.ref o), .val (.int (192 : Int32)), .val (.int (1 : Int32)), .val (.int (2 : Int32)), .val (.int (1 : Int32))] [(.int (64 : Int32))]))
  refine Go.step (fun _ k => XS.bipush X10.here hx rfl (hb hby d1_78) k) ?_
  show Go _ _ _ _ (T10.setTop (mkF m 80 #[.val (.ref o), .val (.int (192 : Int32)), .val (.int (1 : Int32)), .val (.int (2 : Int32)), .val (.int (1 : Int32))] [(.int (6 : Int32)), (.int (64 : Int32))]))
  refine Go.step (fun _ k => XS.iushr X10.here hx rfl (hb hby d1_80) rfl k) ?_
  show Go _ _ _ _ (T10.setTop (mkF m 81 #[.val (.ref o), .val (.int (192 : Int32)), .val (.int (1 : Int32)), .val (.int (2 : Int32)), .val (.int (1 : Int32))] [(.int (((64 : Int32).toUInt32 >>> ((6 : Int32) &&& 31).toUInt32).toInt32))]))
  rw [(by decide : (((64 : Int32).toUInt32 >>> ((6 : Int32) &&& 31).toUInt32).toInt32) = (1 : Int32))]
  show Go _ _ _ _ (T10.setTop (mkF m 81 #[.val (.ref o), .val (.int (192 : Int32)), .val (.int (1 : Int32)), .val (.int (2 : Int32)), .val (.int (1 : Int32))] [(.int (1 : Int32))]))
  refine Go.step (fun _ k => XS.istoreN X10.here hx rfl (hb hby d1_81) rfl (l' := #[.val (.ref o), .val (.int (192 : Int32)), .val (.int (1 : Int32)), .val (.int (2 : Int32)), .val (.int (1 : Int32))]) rfl k) ?_
  show Go _ _ _ _ (T10.setTop (mkF m 82 #[.val (.ref o), .val (.int (192 : Int32)), .val (.int (1 : Int32)), .val (.int (2 : Int32)), .val (.int (1 : Int32))] []))
  refine Go.step (fun _ k => XS.iinc X10.here hx rfl (hb hby d1_82) rfl (l' := #[.val (.ref o), .val (.int (192 : Int32)), .val (.int (1 : Int32)), .val (.int (2 : Int32)), .val (.int (2 : Int32))]) rfl k) ?_
  show Go _ _ _ _ (T10.setTop (mkF m 85 #[.val (.ref o), .val (.int (192 : Int32)), .val (.int (1 : Int32)), .val (.int (2 : Int32)), .val (.int (2 : Int32))] []))
  refine Go.step (fun _ k => XS.goto X10.here hx rfl (pc0 := 85) (pc' := 58) rfl (hb hby d1_85) (by decide) (by decide) k) ?_
  show Go _ _ _ _ (T10.setTop (mkF m 58 #[.val (.ref o), .val (.int (192 : Int32)), .val (.int (1 : Int32)), .val (.int (2 : Int32)), .val (.int (2 : Int32))] []))
  refine Go.step (fun _ k => XS.iload X10.here hx rfl (hb hby d1_58) rfl k) ?_
  show Go _ _ _ _ (T10.setTop (mkF m 60 #[.val (.ref o), .val (.int (192 : Int32)), .val (.int (1 : Int32)), .val (.int (2 : Int32)), .val (.int (2 : Int32))] [(.int (2 : Int32))]))
  refine Go.step (fun _ k => XS.iloadN X10.here hx rfl (hb hby d1_60) rfl k) ?_
  show Go _ _ _ _ (T10.setTop (mkF m 61 #[.val (.ref o), .val (.int (192 : Int32)), .val (.int (1 : Int32)), .val (.int (2 : Int32)), .val (.int (2 : Int32))] [(.int (2 : Int32)), (.int (2 : Int32))]))
  refine Go.step (fun _ k => XS.icmpYes X10.here hx rfl (pc0 := 61) (pc' := 88) rfl (hb hby d1_61) rfl (flt (by decide : ¬ ((2 : Int32) < (2 : Int32)))).2.1 (by decide) (by decide) k) ?_
  show Go _ _ _ _ (T10.setTop (mkF m 88 #[.val (.ref o), .val (.int (192 : Int32)), .val (.int (1 : Int32)), .val (.int (2 : Int32)), .val (.int (2 : Int32))] []))
  refine Go.step (fun _ k => XS.aloadN X10.here hx rfl (hb hby d1_88) rfl rfl k) ?_
  show Go _ _ _ _ (T10.setTop (mkF m 89 #[.val (.ref o), .val (.int (192 : Int32)), .val (.int (1 : Int32)), .val (.int (2 : Int32)), .val (.int (2 : Int32))] [(.ref o)]))
  have gt0_ : n0 ≤ t0 := Nat.le_trans s_tl (Nat.le_of_lt lt_t0)
  have P0 : Lv Z h10 t0 3 (fun _ => false) := Lv.fresh A010 (by decide)
  have P1 : Lv Z h10 t1 1 (fun _ => false) := Lv.fresh A110 (by decide)
  have gt1_ : n0 ≤ t1 := Nat.le_trans s_tl (Nat.le_of_lt lt_t1)
  refine goV X10 hx hZ hown (hw _ (List.mem_of_getElem? (i := 18) rfl)) (hw _ (List.mem_of_getElem? (i := 19) rfl)) (notFace_of_selects (args := #[]) (mvT hZ (hw _ (List.mem_of_getElem? (i := 21) rfl)))) (hw _ (List.mem_of_getElem? (i := 21) rfl)) (hw _ (List.mem_of_getElem? (i := 20) rfl)) (hw _ (List.mem_of_getElem? (i := 3) rfl)) (hw _ (List.mem_of_getElem? (i := 22) rfl)) (by decide) (rmCl2 l Z a0 hw [] h10 o tl t0 t1 3 _ rfl rfl rfl P1 EO10 FX10_levels AT10 P0 (by decide) (by decide) n0 gt0_ gt1_ (Nat.ne_of_lt lo_t0) (Nat.ne_of_lt lt_t0) (Nat.ne_of_lt lo_t1) (Nat.ne_of_lt lt_t1) (Nat.ne_of_lt l01)) e10 EO10 (by rw [hml]; rfl) [] [] rfl pd3 rfl rfl 0 rfl (hb hby d1_89) (by decide) (by decide) (by decide) (by decide) fun TC LC vC qC XC => ?_
  obtain ⟨rfl, NC, KC, PC0, PC1⟩ := qC
  have OB : Obj Z TC.heap o 3 (fun _ => false) n0 := ⟨tl, t0, _, EO10.keep KC, FX10_capacity.keep KC (ninS (Nat.ne_of_lt lo_t0) (ninS (Nat.ne_of_lt lo_t1) nin0)), FX10_levels.keep KC (ninS (Nat.ne_of_lt lo_t0) (ninS (Nat.ne_of_lt lo_t1) nin0)), ⟨KC.2.1 _ _ AT10.1 (ninS (Nat.ne_of_lt lt_t0) (ninS (Nat.ne_of_lt lt_t1) nin0)), AT10.2⟩, rfl, PC0, gt0_, Nat.ne_of_lt lo_t0, Nat.ne_of_lt lt_t0, Or.inr ⟨rfl, by decide, t1, rfl, Nat.ne_of_gt l01, PC1⟩⟩
  show Go _ _ _ _ (TC.setTop (mkF m 92 #[.val (.ref o), .val (.int (192 : Int32)), .val (.int (1 : Int32)), .val (.int (2 : Int32)), .val (.int (2 : Int32))] []))
  exact leafV XC hx hret hlk (hb hby d1_92) ⟨rfl, (Fr.app NF10 NC), OB⟩ (by decide) (by decide)
set_option maxRecDepth 65536 in
set_option maxHeartbeats 40000000 in
theorem rmC4 (l : Launch) (Z : State) (a0 : Array Value) (hw : ∀ d ∈ tables_1, d.before a0 Z = true) (ws : List Jvm.Cond)  (h0 : Heap) (o : Addr) (n0 : Nat) (Z0 : n0 ≤ h0.size) (g0 : n0 ≤ o) (E0 : Exa Z h0 o "com/example/prefix_scope/prefixscope/NumberSet") (FC0 : Fld Z h0 o "com/example/prefix_scope/prefixscope/NumberSet" "capacity" "I" (.int (0 : Int32))) (FL0 : Fld Z h0 o "com/example/prefix_scope/prefixscope/NumberSet" "levels" "[[J" .null) : Con l Z (⟨"com/example/prefix_scope/prefixscope/NumberSet", "<init>", "(I)V"⟩ : MethodName) prog_9_method_1_code 5 none ws ({ frames := 2, cells := 3, slots := 7, locals := 35 } : Room) #[(.ref o), (.int (256 : Int32))] h0 (fun v h L => v = none ∧ Fr n0 L ∧ Obj Z h o 4 (fun _ => false) n0) := by
  refine Con.of pn1 fun p e s m below meth c s₁ hZ hx hby hml hown hret hlk hnm X0 e0 => ?_
  rw [ef1]
  show Go _ _ _ _ (s₁.setTop (mkF m 0 #[.val (.ref o), .val (.int (256 : Int32)), .unset, .unset, .unset] []))
  refine Go.step (fun _ k => XS.aloadN X0.here hx rfl (hb hby d1_0) rfl rfl k) ?_
  show Go _ _ _ _ (s₁.setTop (mkF m 1 #[.val (.ref o), .val (.int (256 : Int32)), .unset, .unset, .unset] [(.ref o)]))
  obtain ⟨T1, X1, e1, st1⟩ := initO X0 hx hZ hown (hw _ (List.mem_of_getElem? (i := 7) rfl)) (hw _ (List.mem_of_getElem? (i := 8) rfl)) (hw _ (List.mem_of_getElem? (i := 9) rfl)) e0 (g := (mkF m 1 #[.val (.ref o), .val (.int (256 : Int32)), .unset, .unset, .unset] [(.ref o)])) rfl (by rw [hml]; rfl) rfl (hb hby d1_1) (by decide) (W := 0) (by show 2 * 0 + _ ≤ _; exact Nat.le_of_eq rfl) (by decide)
  refine Go.step st1 ?_
  show Go _ _ _ _ (T1.setTop (mkF m 4 #[.val (.ref o), .val (.int (256 : Int32)), .unset, .unset, .unset] []))
  refine Go.step (fun _ k => XS.iloadN X1.here hx rfl (hb hby d1_4) rfl k) ?_
  show Go _ _ _ _ (T1.setTop (mkF m 5 #[.val (.ref o), .val (.int (256 : Int32)), .unset, .unset, .unset] [(.int (256 : Int32))]))
  refine Go.step (fun _ k => XS.bipush X1.here hx rfl (hb hby d1_5) k) ?_
  show Go _ _ _ _ (T1.setTop (mkF m 7 #[.val (.ref o), .val (.int (256 : Int32)), .unset, .unset, .unset] [(.int (63 : Int32)), (.int (256 : Int32))]))
  refine Go.step (fun _ k => XS.iadd X1.here hx rfl (hb hby d1_7) rfl k) ?_
  show Go _ _ _ _ (T1.setTop (mkF m 8 #[.val (.ref o), .val (.int (256 : Int32)), .unset, .unset, .unset] [(.int ((256 : Int32) + (63 : Int32)))]))
  rw [(by decide : ((256 : Int32) + (63 : Int32)) = (319 : Int32))]
  show Go _ _ _ _ (T1.setTop (mkF m 8 #[.val (.ref o), .val (.int (256 : Int32)), .unset, .unset, .unset] [(.int (319 : Int32))]))
  refine Go.step (fun _ k => XS.bipush X1.here hx rfl (hb hby d1_8) k) ?_
  show Go _ _ _ _ (T1.setTop (mkF m 10 #[.val (.ref o), .val (.int (256 : Int32)), .unset, .unset, .unset] [(.int (6 : Int32)), (.int (319 : Int32))]))
  refine Go.step (fun _ k => XS.iushr X1.here hx rfl (hb hby d1_10) rfl k) ?_
  show Go _ _ _ _ (T1.setTop (mkF m 11 #[.val (.ref o), .val (.int (256 : Int32)), .unset, .unset, .unset] [(.int (((319 : Int32).toUInt32 >>> ((6 : Int32) &&& 31).toUInt32).toInt32))]))
  rw [(by decide : (((319 : Int32).toUInt32 >>> ((6 : Int32) &&& 31).toUInt32).toInt32) = (4 : Int32))]
  show Go _ _ _ _ (T1.setTop (mkF m 11 #[.val (.ref o), .val (.int (256 : Int32)), .unset, .unset, .unset] [(.int (4 : Int32))]))
  refine Go.step (fun _ k => XS.istoreN X1.here hx rfl (hb hby d1_11) rfl (l' := #[.val (.ref o), .val (.int (256 : Int32)), .val (.int (4 : Int32)), .unset, .unset]) rfl k) ?_
  show Go _ _ _ _ (T1.setTop (mkF m 12 #[.val (.ref o), .val (.int (256 : Int32)), .val (.int (4 : Int32)), .unset, .unset] []))
  refine Go.step (fun _ k => XS.aloadN X1.here hx rfl (hb hby d1_12) rfl rfl k) ?_
  show Go _ _ _ _ (T1.setTop (mkF m 13 #[.val (.ref o), .val (.int (256 : Int32)), .val (.int (4 : Int32)), .unset, .unset] [(.ref o)]))
  refine Go.step (fun _ k => XS.iloadN X1.here hx rfl (hb hby d1_13) rfl k) ?_
  show Go _ _ _ _ (T1.setTop (mkF m 14 #[.val (.ref o), .val (.int (256 : Int32)), .val (.int (4 : Int32)), .unset, .unset] [(.int (4 : Int32)), (.ref o)]))
  refine Go.step (fun _ k => XS.bipush X1.here hx rfl (hb hby d1_14) k) ?_
  show Go _ _ _ _ (T1.setTop (mkF m 16 #[.val (.ref o), .val (.int (256 : Int32)), .val (.int (4 : Int32)), .unset, .unset] [(.int (6 : Int32)), (.int (4 : Int32)), (.ref o)]))
  refine Go.step (fun _ k => XS.ishl X1.here hx rfl (hb hby d1_16) rfl k) ?_
  show Go _ _ _ _ (T1.setTop (mkF m 17 #[.val (.ref o), .val (.int (256 : Int32)), .val (.int (4 : Int32)), .unset, .unset] [(.int ((4 : Int32) <<< ((6 : Int32) &&& 31))), (.ref o)]))
  rw [(by decide : ((4 : Int32) <<< ((6 : Int32) &&& 31)) = (256 : Int32))]
  show Go _ _ _ _ (T1.setTop (mkF m 17 #[.val (.ref o), .val (.int (256 : Int32)), .val (.int (4 : Int32)), .unset, .unset] [(.int (256 : Int32)), (.ref o)]))
  obtain ⟨T2, h2, X2, e2, W2, st2⟩ := putF X1 hx hZ hown (host := "") (Or.inl (hw _ (List.mem_of_getElem? (i := 10) rfl))) Via.refl e1 FC0 E0 (Or.inr ⟨(hw _ (List.mem_of_getElem? (i := 11) rfl)), rfl, hnm⟩) (hw _ (List.mem_of_getElem? (i := 2) rfl)) (ty := .int) (by decide) rfl rfl (g := (mkF m 17 #[.val (.ref o), .val (.int (256 : Int32)), .val (.int (4 : Int32)), .unset, .unset] [(.int (256 : Int32)), (.ref o)])) rfl rfl (hb hby d1_17)
  have F2_capacity := FC0.same W2
  have F2_levels := FL0.other W2 (Or.inr (slot_ne (Or.inr (hw _ (List.mem_of_getElem? (i := 15) rfl))) (Or.inr (hw _ (List.mem_of_getElem? (i := 11) rfl))) (by decide) (t := (.array (.array .long))) (t' := .int) (by decide) (by decide)))
  have E_2 := E0.wr W2
  have NF2 := Fr.snoc X2 (Fr.nil n0) g0
  refine Go.step st2 ?_
  show Go _ _ _ _ (T2.setTop (mkF m 20 #[.val (.ref o), .val (.int (256 : Int32)), .val (.int (4 : Int32)), .unset, .unset] []))
  refine Go.step (fun _ k => XS.iconst X2.here hx rfl (hb hby d1_20) k) ?_
  show Go _ _ _ _ (T2.setTop (mkF m 21 #[.val (.ref o), .val (.int (256 : Int32)), .val (.int (4 : Int32)), .unset, .unset] [(.int (1 : Int32))]))
  refine Go.step (fun _ k => XS.istoreN X2.here hx rfl (hb hby d1_21) rfl (l' := #[.val (.ref o), .val (.int (256 : Int32)), .val (.int (4 : Int32)), .val (.int (1 : Int32)), .unset]) rfl k) ?_
  show Go _ _ _ _ (T2.setTop (mkF m 22 #[.val (.ref o), .val (.int (256 : Int32)), .val (.int (4 : Int32)), .val (.int (1 : Int32)), .unset] []))
  refine Go.step (fun _ k => XS.iloadN X2.here hx rfl (hb hby d1_22) rfl k) ?_
  show Go _ _ _ _ (T2.setTop (mkF m 23 #[.val (.ref o), .val (.int (256 : Int32)), .val (.int (4 : Int32)), .val (.int (1 : Int32)), .unset] [(.int (4 : Int32))]))
  refine Go.step (fun _ k => XS.istore X2.here hx rfl (hb hby d1_23) rfl (l' := #[.val (.ref o), .val (.int (256 : Int32)), .val (.int (4 : Int32)), .val (.int (1 : Int32)), .val (.int (4 : Int32))]) rfl k) ?_
  show Go _ _ _ _ (T2.setTop (mkF m 25 #[.val (.ref o), .val (.int (256 : Int32)), .val (.int (4 : Int32)), .val (.int (1 : Int32)), .val (.int (4 : Int32))] []))
  refine Go.step (fun _ k => XS.iload X2.here hx rfl (hb hby d1_25) rfl k) ?_
  show Go _ _ _ _ (T2.setTop (mkF m 27 #[.val (.ref o), .val (.int (256 : Int32)), .val (.int (4 : Int32)), .val (.int (1 : Int32)), .val (.int (4 : Int32))] [(.int (4 : Int32))]))
  refine Go.step (fun _ k => XS.iconst X2.here hx rfl (hb hby d1_27) k) ?_
  show Go _ _ _ _ (T2.setTop (mkF m 28 #[.val (.ref o), .val (.int (256 : Int32)), .val (.int (4 : Int32)), .val (.int (1 : Int32)), .val (.int (4 : Int32))] [(.int (1 : Int32)), (.int (4 : Int32))]))
  refine Go.step (fun _ k => XS.icmpNo X2.here hx rfl (hb hby d1_28) rfl (tlt (by decide : ((1 : Int32) < (4 : Int32)))).2.2.2 k) ?_
  show Go _ _ _ _ (T2.setTop (mkF m 31 #[.val (.ref o), .val (.int (256 : Int32)), .val (.int (4 : Int32)), .val (.int (1 : Int32)), .val (.int (4 : Int32))] []))
  refine Go.step (fun _ k => XS.iinc X2.here hx rfl (hb hby d1_31) rfl (l' := #[.val (.ref o), .val (.int (256 : Int32)), .val (.int (4 : Int32)), .val (.int (2 : Int32)), .val (.int (4 : Int32))]) rfl k) ?_
  show Go _ _ _ _ (T2.setTop (mkF m 34 #[.val (.ref o), .val (.int (256 : Int32)), .val (.int (4 : Int32)), .val (.int (2 : Int32)), .val (.int (4 : Int32))] []))
  refine Go.step (fun _ k => XS.iload X2.here hx rfl (hb hby d1_34) rfl k) ?_
  show Go _ _ _ _ (T2.setTop (mkF m 36 #[.val (.ref o), .val (.int (256 : Int32)), .val (.int (4 : Int32)), .val (.int (2 : Int32)), .val (.int (4 : Int32))] [(.int (4 : Int32))]))
  refine Go.step (fun _ k => XS.bipush X2.here hx rfl (hb hby d1_36) k) ?_
  show Go _ _ _ _ (T2.setTop (mkF m 38 #[.val (.ref o), .val (.int (256 : Int32)), .val (.int (4 : Int32)), .val (.int (2 : Int32)), .val (.int (4 : Int32))] [(.int (63 : Int32)), (.int (4 : Int32))]))
  refine Go.step (fun _ k => XS.iadd X2.here hx rfl (hb hby d1_38) rfl k) ?_
  show Go _ _ _ _ (T2.setTop (mkF m 39 #[.val (.ref o), .val (.int (256 : Int32)), .val (.int (4 : Int32)), .val (.int (2 : Int32)), .val (.int (4 : Int32))] [(.int ((4 : Int32) + (63 : Int32)))]))
  rw [(by decide : ((4 : Int32) + (63 : Int32)) = (67 : Int32))]
  show Go _ _ _ _ (T2.setTop (mkF m 39 #[.val (.ref o), .val (.int (256 : Int32)), .val (.int (4 : Int32)), .val (.int (2 : Int32)), .val (.int (4 : Int32))] [(.int (67 : Int32))]))
  refine Go.step (fun _ k => XS.bipush X2.here hx rfl (hb hby d1_39) k) ?_
  show Go _ _ _ _ (T2.setTop (mkF m 41 #[.val (.ref o), .val (.int (256 : Int32)), .val (.int (4 : Int32)), .val (.int (2 : Int32)), .val (.int (4 : Int32))] [(.int (6 : Int32)), (.int (67 : Int32))]))
  refine Go.step (fun _ k => XS.iushr X2.here hx rfl (hb hby d1_41) rfl k) ?_
  show Go _ _ _ _ (T2.setTop (mkF m 42 #[.val (.ref o), .val (.int (256 : Int32)), .val (.int (4 : Int32)), .val (.int (2 : Int32)), .val (.int (4 : Int32))] [(.int (((67 : Int32).toUInt32 >>> ((6 : Int32) &&& 31).toUInt32).toInt32))]))
  rw [(by decide : (((67 : Int32).toUInt32 >>> ((6 : Int32) &&& 31).toUInt32).toInt32) = (1 : Int32))]
  show Go _ _ _ _ (T2.setTop (mkF m 42 #[.val (.ref o), .val (.int (256 : Int32)), .val (.int (4 : Int32)), .val (.int (2 : Int32)), .val (.int (4 : Int32))] [(.int (1 : Int32))]))
  refine Go.step (fun _ k => XS.istore X2.here hx rfl (hb hby d1_42) rfl (l' := #[.val (.ref o), .val (.int (256 : Int32)), .val (.int (4 : Int32)), .val (.int (2 : Int32)), .val (.int (1 : Int32))]) rfl k) ?_
  show Go _ _ _ _ (T2.setTop (mkF m 44 #[.val (.ref o), .val (.int (256 : Int32)), .val (.int (4 : Int32)), .val (.int (2 : Int32)), .val (.int (1 : Int32))] []))
  refine Go.step (fun _ k => XS.goto X2.here hx rfl (pc0 := 44) (pc' := 25) rfl (hb hby d1_44) (by decide) (by decide) k) ?_
  show Go _ _ _ _ (T2.setTop (mkF m 25 #[.val (.ref o), .val (.int (256 : Int32)), .val (.int (4 : Int32)), .val (.int (2 : Int32)), .val (.int (1 : Int32))] []))
  refine Go.step (fun _ k => XS.iload X2.here hx rfl (hb hby d1_25) rfl k) ?_
  show Go _ _ _ _ (T2.setTop (mkF m 27 #[.val (.ref o), .val (.int (256 : Int32)), .val (.int (4 : Int32)), .val (.int (2 : Int32)), .val (.int (1 : Int32))] [(.int (1 : Int32))]))
  refine Go.step (fun _ k => XS.iconst X2.here hx rfl (hb hby d1_27) k) ?_
  show Go _ _ _ _ (T2.setTop (mkF m 28 #[.val (.ref o), .val (.int (256 : Int32)), .val (.int (4 : Int32)), .val (.int (2 : Int32)), .val (.int (1 : Int32))] [(.int (1 : Int32)), (.int (1 : Int32))]))
  refine Go.step (fun _ k => XS.icmpYes X2.here hx rfl (pc0 := 28) (pc' := 47) rfl (hb hby d1_28) rfl (flt (by decide : ¬ ((1 : Int32) < (1 : Int32)))).2.2.2 (by decide) (by decide) k) ?_
  show Go _ _ _ _ (T2.setTop (mkF m 47 #[.val (.ref o), .val (.int (256 : Int32)), .val (.int (4 : Int32)), .val (.int (2 : Int32)), .val (.int (1 : Int32))] []))
  refine Go.step (fun _ k => XS.aloadN X2.here hx rfl (hb hby d1_47) rfl rfl k) ?_
  show Go _ _ _ _ (T2.setTop (mkF m 48 #[.val (.ref o), .val (.int (256 : Int32)), .val (.int (4 : Int32)), .val (.int (2 : Int32)), .val (.int (1 : Int32))] [(.ref o)]))
  refine Go.step (fun _ k => XS.iloadN X2.here hx rfl (hb hby d1_48) rfl k) ?_
  show Go _ _ _ _ (T2.setTop (mkF m 49 #[.val (.ref o), .val (.int (256 : Int32)), .val (.int (4 : Int32)), .val (.int (2 : Int32)), .val (.int (1 : Int32))] [(.int (2 : Int32)), (.ref o)]))
  obtain ⟨T3, h3, kT, X3, e3, E3, A_tl, EX_tl, O_tl, st3⟩ := newRA X2 hx hZ hown (C := "[J") (ty := .long) (by decide) (hw _ (List.mem_of_getElem? (i := 12) rfl)) (hw _ (List.mem_of_getElem? (i := 13) rfl)) e2 (g := (mkF m 49 #[.val (.ref o), .val (.int (256 : Int32)), .val (.int (4 : Int32)), .val (.int (2 : Int32)), .val (.int (1 : Int32))] [(.int (2 : Int32)), (.ref o)])) rfl (hb hby d1_49) rfl (by decide) (cap := 2) (by decide) (by decide) (by decide) (by decide) (ad := "[[J") (by decide)
  obtain ⟨tl, gtl⟩ : ∃ z, z = h2.size := ⟨_, rfl⟩
  rw [← gtl] at A_tl EX_tl st3
  have n_tl : o ≠ tl := Nat.ne_of_lt (Nat.lt_of_lt_of_le E_2.lt (Nat.le_of_eq gtl.symm))
  have s_tl : n0 ≤ tl := Nat.le_trans Z0 (Nat.le_trans (Nat.le_of_eq W2.size.symm) (Nat.le_of_eq gtl.symm))
  have FX3_capacity := F2_capacity.ext E3
  have FX3_levels := F2_levels.ext E3
  have EO3 := E_2.ext E3
  refine Go.step st3 ?_
  show Go _ _ _ _ (T3.setTop (mkF m 52 #[.val (.ref o), .val (.int (256 : Int32)), .val (.int (4 : Int32)), .val (.int (2 : Int32)), .val (.int (1 : Int32))] [(.ref tl), (.ref o)]))
  obtain ⟨T4, h4, X4, e4, W4, st4⟩ := putF X3 hx hZ hown (host := "") (Or.inl (hw _ (List.mem_of_getElem? (i := 14) rfl))) Via.refl e3 FX3_levels EO3 (Or.inr ⟨(hw _ (List.mem_of_getElem? (i := 15) rfl)), rfl, hnm⟩) (hw _ (List.mem_of_getElem? (i := 2) rfl)) (ty := (.array (.array .long))) (by decide) rfl rfl (g := (mkF m 52 #[.val (.ref o), .val (.int (256 : Int32)), .val (.int (4 : Int32)), .val (.int (2 : Int32)), .val (.int (1 : Int32))] [(.ref tl), (.ref o)])) rfl rfl (hb hby d1_52)
  have F4_capacity := FX3_capacity.other W4 (Or.inr (slot_ne (Or.inr (hw _ (List.mem_of_getElem? (i := 11) rfl))) (Or.inr (hw _ (List.mem_of_getElem? (i := 15) rfl))) (by decide) (t := .int) (t' := (.array (.array .long))) (by decide) (by decide)))
  have F4_levels := FX3_levels.same W4
  have E_4 := EO3.wr W4
  have NF4 := Fr.snoc X4 NF2 g0
  refine Go.step st4 ?_
  have AT4 := A_tl.other W4 (Ne.symm n_tl)
  show Go _ _ _ _ (T4.setTop (mkF m 55 #[.val (.ref o), .val (.int (256 : Int32)), .val (.int (4 : Int32)), .val (.int (2 : Int32)), .val (.int (1 : Int32))] []))
  refine Go.step (fun _ k => XS.iconst X4.here hx rfl (hb hby d1_55) k) ?_
  show Go _ _ _ _ (T4.setTop (mkF m 56 #[.val (.ref o), .val (.int (256 : Int32)), .val (.int (4 : Int32)), .val (.int (2 : Int32)), .val (.int (1 : Int32))] [(.int (0 : Int32))]))
  refine Go.step (fun _ k => XS.istore X4.here hx rfl (hb hby d1_56) rfl (l' := #[.val (.ref o), .val (.int (256 : Int32)), .val (.int (4 : Int32)), .val (.int (2 : Int32)), .val (.int (0 : Int32))]) rfl k) ?_
  show Go _ _ _ _ (T4.setTop (mkF m 58 #[.val (.ref o), .val (.int (256 : Int32)), .val (.int (4 : Int32)), .val (.int (2 : Int32)), .val (.int (0 : Int32))] []))
  refine Go.step (fun _ k => XS.iload X4.here hx rfl (hb hby d1_58) rfl k) ?_
  show Go _ _ _ _ (T4.setTop (mkF m 60 #[.val (.ref o), .val (.int (256 : Int32)), .val (.int (4 : Int32)), .val (.int (2 : Int32)), .val (.int (0 : Int32))] [(.int (0 : Int32))]))
  refine Go.step (fun _ k => XS.iloadN X4.here hx rfl (hb hby d1_60) rfl k) ?_
  show Go _ _ _ _ (T4.setTop (mkF m 61 #[.val (.ref o), .val (.int (256 : Int32)), .val (.int (4 : Int32)), .val (.int (2 : Int32)), .val (.int (0 : Int32))] [(.int (2 : Int32)), (.int (0 : Int32))]))
  refine Go.step (fun _ k => XS.icmpNo X4.here hx rfl (hb hby d1_61) rfl (tlt (by decide : ((0 : Int32) < (2 : Int32)))).2.1 k) ?_
  show Go _ _ _ _ (T4.setTop (mkF m 64 #[.val (.ref o), .val (.int (256 : Int32)), .val (.int (4 : Int32)), .val (.int (2 : Int32)), .val (.int (0 : Int32))] []))
  refine Go.step (fun _ k => XS.aloadN X4.here hx rfl (hb hby d1_64) rfl rfl k) ?_
  show Go _ _ _ _ (T4.setTop (mkF m 65 #[.val (.ref o), .val (.int (256 : Int32)), .val (.int (4 : Int32)), .val (.int (2 : Int32)), .val (.int (0 : Int32))] [(.ref o)]))
  obtain ⟨T5, X5, e5, st5⟩ := getF X4 hx hZ hown (host := "") (Or.inl (hw _ (List.mem_of_getElem? (i := 14) rfl))) Via.refl e4 F4_levels (g := (mkF m 65 #[.val (.ref o), .val (.int (256 : Int32)), .val (.int (4 : Int32)), .val (.int (2 : Int32)), .val (.int (0 : Int32))] [(.ref o)])) rfl rfl (hb hby d1_65)
  refine Go.step st5 ?_
  show Go _ _ _ _ (T5.setTop (mkF m 68 #[.val (.ref o), .val (.int (256 : Int32)), .val (.int (4 : Int32)), .val (.int (2 : Int32)), .val (.int (0 : Int32))] [(.ref tl)]))
  refine Go.step (fun _ k => XS.iload X5.here hx rfl (hb hby d1_68) rfl k) ?_
  show Go _ _ _ _ (T5.setTop (mkF m 70 #[.val (.ref o), .val (.int (256 : Int32)), .val (.int (4 : Int32)), .val (.int (2 : Int32)), .val (.int (0 : Int32))] [(.int (0 : Int32)), (.ref tl)]))
  refine Go.step (fun _ k => XS.iloadN X5.here hx rfl (hb hby d1_70) rfl k) ?_
  show Go _ _ _ _ (T5.setTop (mkF m 71 #[.val (.ref o), .val (.int (256 : Int32)), .val (.int (4 : Int32)), .val (.int (2 : Int32)), .val (.int (0 : Int32))] [(.int (4 : Int32)), (.int (0 : Int32)), (.ref tl)]))
  obtain ⟨T6, h6, kk0, X6, e6, E6, A_t0, EX_t0, st6⟩ := newPE X5 hx hZ (hw _ (List.mem_of_getElem? (i := 16) rfl)) e5 (g := (mkF m 71 #[.val (.ref o), .val (.int (256 : Int32)), .val (.int (4 : Int32)), .val (.int (2 : Int32)), .val (.int (0 : Int32))] [(.int (4 : Int32)), (.int (0 : Int32)), (.ref tl)])) rfl (hb hby d1_71) rfl (by decide) (cap := 4) (by decide) (by decide) (by decide) (by decide) (ad := "[J") (by decide)
  obtain ⟨t0, gt0⟩ : ∃ z, z = h4.size := ⟨_, rfl⟩
  rw [← gt0] at A_t0 EX_t0 st6
  have lo_t0 : o < t0 := Nat.lt_of_lt_of_le E_4.lt (Nat.le_of_eq gt0.symm)
  have lt_t0 : tl < t0 := Nat.lt_of_lt_of_le AT4.lt (Nat.le_of_eq gt0.symm)
  have FX6_capacity := F4_capacity.ext E6
  have FX6_levels := F4_levels.ext E6
  have EO6 := E_4.ext E6
  have AT6 := AT4.ext E6
  refine Go.step st6 ?_
  show Go _ _ _ _ (T6.setTop (mkF m 73 #[.val (.ref o), .val (.int (256 : Int32)), .val (.int (4 : Int32)), .val (.int (2 : Int32)), .val (.int (0 : Int32))] [(.ref t0), (.int (0 : Int32)), (.ref tl)]))
  obtain ⟨T7, h7, X7, e7, W7, st7⟩ := stR X6 hx hZ e6 AT6 (j := (0 : Int32)) (own_in (i := 0) (Nat.le_of_ble_eq_true rfl) (by decide)) rfl (Sto.ofVA AT6 rfl O_tl (Ins.self EX_t0)) (g := (mkF m 73 #[.val (.ref o), .val (.int (256 : Int32)), .val (.int (4 : Int32)), .val (.int (2 : Int32)), .val (.int (0 : Int32))] [(.ref t0), (.int (0 : Int32)), (.ref tl)])) rfl rfl (hb hby d1_73)
  have NF7 := Fr.snoc X7 NF4 s_tl
  have FX7_capacity := FX6_capacity.other W7 (Or.inl n_tl)
  have FX7_levels := FX6_levels.other W7 (Or.inl n_tl)
  have EO7 := EO6.wr W7
  have AT7 := AT6.same W7
  have A07 := A_t0.other W7 (Nat.ne_of_gt lt_t0)
  refine Go.step st7 ?_
  show Go _ _ _ _ (T7.setTop (mkF m 74 #[.val (.ref o), .val (.int (256 : Int32)), .val (.int (4 : Int32)), .val (.int (2 : Int32)), .val (.int (0 : Int32))] []))
  refine Go.step (fun _ k => XS.iloadN X7.here hx rfl (hb hby d1_74) rfl k) ?_
  show Go _ _ _ _ (T7.setTop (mkF m 75 #[.val (.ref o), .val (.int (256 : Int32)), .val (.int (4 : Int32)), .val (.int (2 : Int32)), .val (.int (0 : Int32))] [(.int (4 : Int32))]))
  refine Go.step (fun _ k => XS.bipush X7.here hx rfl (hb hby d1_75) k) ?_
  show Go _ _ _ _ (T7.setTop (mkF m 77 #[.val (.ref o), .val (.int (256 : Int32)), .val (.int (4 : Int32)), .val (.int (2 : Int32)), .val (.int (0 : Int32))] [(.int (63 : Int32)), (.int (4 : Int32))]))
  refine Go.step (fun _ k => XS.iadd X7.here hx rfl (hb hby d1_77) rfl k) ?_
  show Go _ _ _ _ (T7.setTop (mkF m 78 #[.val (.ref o), .val (.int (256 : Int32)), .val (.int (4 : Int32)), .val (.int (2 : Int32)), .val (.int (0 : Int32))] [(.int ((4 : Int32) + (63 : Int32)))]))
  rw [(by decide : ((4 : Int32) + (63 : Int32)) = (67 : Int32))]
  show Go _ _ _ _ (T7.setTop (mkF m 78 #[.val (.ref o), .val (.int (256 : Int32)), .val (.int (4 : Int32)), .val (.int (2 : Int32)), .val (.int (0 : Int32))] [(.int (67 : Int32))]))
  refine Go.step (fun _ k => XS.bipush X7.here hx rfl (hb hby d1_78) k) ?_
  show Go _ _ _ _ (T7.setTop (mkF m 80 #[.val (.ref o), .val (.int (256 : Int32)), .val (.int (4 : Int32)), .val (.int (2 : Int32)), .val (.int (0 : Int32))] [(.int (6 : Int32)), (.int (67 : Int32))]))
  refine Go.step (fun _ k => XS.iushr X7.here hx rfl (hb hby d1_80) rfl k) ?_
  show Go _ _ _ _ (T7.setTop (mkF m 81 #[.val (.ref o), .val (.int (256 : Int32)), .val (.int (4 : Int32)), .val (.int (2 : Int32)), .val (.int (0 : Int32))] [(.int (((67 : Int32).toUInt32 >>> ((6 : Int32) &&& 31).toUInt32).toInt32))]))
  rw [(by decide : (((67 : Int32).toUInt32 >>> ((6 : Int32) &&& 31).toUInt32).toInt32) = (1 : Int32))]
  show Go _ _ _ _ (T7.setTop (mkF m 81 #[.val (.ref o), .val (.int (256 : Int32)), .val (.int (4 : Int32)), .val (.int (2 : Int32)), .val (.int (0 : Int32))] [(.int (1 : Int32))]))
  refine Go.step (fun _ k => XS.istoreN X7.here hx rfl (hb hby d1_81) rfl (l' := #[.val (.ref o), .val (.int (256 : Int32)), .val (.int (1 : Int32)), .val (.int (2 : Int32)), .val (.int (0 : Int32))]) rfl k) ?_
  show Go _ _ _ _ (T7.setTop (mkF m 82 #[.val (.ref o), .val (.int (256 : Int32)), .val (.int (1 : Int32)), .val (.int (2 : Int32)), .val (.int (0 : Int32))] []))
  refine Go.step (fun _ k => XS.iinc X7.here hx rfl (hb hby d1_82) rfl (l' := #[.val (.ref o), .val (.int (256 : Int32)), .val (.int (1 : Int32)), .val (.int (2 : Int32)), .val (.int (1 : Int32))]) rfl k) ?_
  show Go _ _ _ _ (T7.setTop (mkF m 85 #[.val (.ref o), .val (.int (256 : Int32)), .val (.int (1 : Int32)), .val (.int (2 : Int32)), .val (.int (1 : Int32))] []))
  refine Go.step (fun _ k => XS.goto X7.here hx rfl (pc0 := 85) (pc' := 58) rfl (hb hby d1_85) (by decide) (by decide) k) ?_
  show Go _ _ _ _ (T7.setTop (mkF m 58 #[.val (.ref o), .val (.int (256 : Int32)), .val (.int (1 : Int32)), .val (.int (2 : Int32)), .val (.int (1 : Int32))] []))
  refine Go.step (fun _ k => XS.iload X7.here hx rfl (hb hby d1_58) rfl k) ?_
  show Go _ _ _ _ (T7.setTop (mkF m 60 #[.val (.ref o), .val (.int (256 : Int32)), .val (.int (1 : Int32)), .val (.int (2 : Int32)), .val (.int (1 : Int32))] [(.int (1 : Int32))]))
  refine Go.step (fun _ k => XS.iloadN X7.here hx rfl (hb hby d1_60) rfl k) ?_
  show Go _ _ _ _ (T7.setTop (mkF m 61 #[.val (.ref o), .val (.int (256 : Int32)), .val (.int (1 : Int32)), .val (.int (2 : Int32)), .val (.int (1 : Int32))] [(.int (2 : Int32)), (.int (1 : Int32))]))
  refine Go.step (fun _ k => XS.icmpNo X7.here hx rfl (hb hby d1_61) rfl (tlt (by decide : ((1 : Int32) < (2 : Int32)))).2.1 k) ?_
  show Go _ _ _ _ (T7.setTop (mkF m 64 #[.val (.ref o), .val (.int (256 : Int32)), .val (.int (1 : Int32)), .val (.int (2 : Int32)), .val (.int (1 : Int32))] []))
  refine Go.step (fun _ k => XS.aloadN X7.here hx rfl (hb hby d1_64) rfl rfl k) ?_
  show Go _ _ _ _ (T7.setTop (mkF m 65 #[.val (.ref o), .val (.int (256 : Int32)), .val (.int (1 : Int32)), .val (.int (2 : Int32)), .val (.int (1 : Int32))] [(.ref o)]))
  obtain ⟨T8, X8, e8, st8⟩ := getF X7 hx hZ hown (host := "") (Or.inl (hw _ (List.mem_of_getElem? (i := 14) rfl))) Via.refl e7 FX7_levels (g := (mkF m 65 #[.val (.ref o), .val (.int (256 : Int32)), .val (.int (1 : Int32)), .val (.int (2 : Int32)), .val (.int (1 : Int32))] [(.ref o)])) rfl rfl (hb hby d1_65)
  refine Go.step st8 ?_
  show Go _ _ _ _ (T8.setTop (mkF m 68 #[.val (.ref o), .val (.int (256 : Int32)), .val (.int (1 : Int32)), .val (.int (2 : Int32)), .val (.int (1 : Int32))] [(.ref tl)]))
  refine Go.step (fun _ k => XS.iload X8.here hx rfl (hb hby d1_68) rfl k) ?_
  show Go _ _ _ _ (T8.setTop (mkF m 70 #[.val (.ref o), .val (.int (256 : Int32)), .val (.int (1 : Int32)), .val (.int (2 : Int32)), .val (.int (1 : Int32))] [(.int (1 : Int32)), (.ref tl)]))
  refine Go.step (fun _ k => XS.iloadN X8.here hx rfl (hb hby d1_70) rfl k) ?_
  show Go _ _ _ _ (T8.setTop (mkF m 71 #[.val (.ref o), .val (.int (256 : Int32)), .val (.int (1 : Int32)), .val (.int (2 : Int32)), .val (.int (1 : Int32))] [(.int (1 : Int32)), (.int (1 : Int32)), (.ref tl)]))
  obtain ⟨T9, h9, kk1, X9, e9, E9, A_t1, EX_t1, st9⟩ := newPE X8 hx hZ (hw _ (List.mem_of_getElem? (i := 16) rfl)) e8 (g := (mkF m 71 #[.val (.ref o), .val (.int (256 : Int32)), .val (.int (1 : Int32)), .val (.int (2 : Int32)), .val (.int (1 : Int32))] [(.int (1 : Int32)), (.int (1 : Int32)), (.ref tl)])) rfl (hb hby d1_71) rfl (by decide) (cap := 1) (by decide) (by decide) (by decide) (by decide) (ad := "[J") (by decide)
  obtain ⟨t1, gt1⟩ : ∃ z, z = h7.size := ⟨_, rfl⟩
  rw [← gt1] at A_t1 EX_t1 st9
  have lo_t1 : o < t1 := Nat.lt_of_lt_of_le EO7.lt (Nat.le_of_eq gt1.symm)
  have lt_t1 : tl < t1 := Nat.lt_of_lt_of_le AT7.lt (Nat.le_of_eq gt1.symm)
  have l01 : t0 < t1 := Nat.lt_of_lt_of_le A07.lt (Nat.le_of_eq gt1.symm)
  have FX9_capacity := FX7_capacity.ext E9
  have FX9_levels := FX7_levels.ext E9
  have EO9 := EO7.ext E9
  have AT9 := AT7.ext E9
  have A09 := A07.ext E9
  refine Go.step st9 ?_
  show Go _ _ _ _ (T9.setTop (mkF m 73 #[.val (.ref o), .val (.int (256 : Int32)), .val (.int (1 : Int32)), .val (.int (2 : Int32)), .val (.int (1 : Int32))] [(.ref t1), (.int (1 : Int32)), (.ref tl)]))
  obtain ⟨T10, h10, X10, e10, W10, st10⟩ := stR X9 hx hZ e9 AT9 (j := (1 : Int32)) (own_in (i := 1) (Nat.le_of_ble_eq_true rfl) (by decide)) rfl (Sto.ofVA AT9 rfl O_tl (Ins.self EX_t1)) (g := (mkF m 73 #[.val (.ref o), .val (.int (256 : Int32)), .val (.int (1 : Int32)), .val (.int (2 : Int32)), .val (.int (1 : Int32))] [(.ref t1), (.int (1 : Int32)), (.ref tl)])) rfl rfl (hb hby d1_73)
  have NF10 := Fr.snoc X10 NF7 s_tl
  have FX10_capacity := FX9_capacity.other W10 (Or.inl n_tl)
  have FX10_levels := FX9_levels.other W10 (Or.inl n_tl)
  have EO10 := EO9.wr W10
  have AT10 := AT9.same W10
  have A010 := A09.other W10 (Nat.ne_of_gt lt_t0)
  have A110 := A_t1.other W10 (Nat.ne_of_gt lt_t1)
  refine Go.step st10 ?_
  show Go _ _ _ _ (T10.setTop (mkF m 74 #[.val (.ref o), .val (.int (256 : Int32)), .val (.int (1 : Int32)), .val (.int (2 : Int32)), .val (.int (1 : Int32))] []))
  refine Go.step (fun _ k => XS.iloadN X10.here hx rfl (hb hby d1_74) rfl k) ?_
  show Go _ _ _ _ (T10.setTop (mkF m 75 #[.val (.ref o), .val (.int (256 : Int32)), .val (.int (1 : Int32)), .val (.int (2 : Int32)), .val (.int (1 : Int32))] [(.int (1 : Int32))]))
  refine Go.step (fun _ k => XS.bipush X10.here hx rfl (hb hby d1_75) k) ?_
  show Go _ _ _ _ (T10.setTop (mkF m 77 #[.val (.ref o), .val (.int (256 : Int32)), .val (.int (1 : Int32)), .val (.int (2 : Int32)), .val (.int (1 : Int32))] [(.int (63 : Int32)), (.int (1 : Int32))]))
  refine Go.step (fun _ k => XS.iadd X10.here hx rfl (hb hby d1_77) rfl k) ?_
  show Go _ _ _ _ (T10.setTop (mkF m 78 #[.val (.ref o), .val (.int (256 : Int32)), .val (.int (1 : Int32)), .val (.int (2 : Int32)), .val (.int (1 : Int32))] [(.int ((1 : Int32) + (63 : Int32)))]))
  rw [(by decide : ((1 : Int32) + (63 : Int32)) = (64 : Int32))]
  show Go _ _ _ _ (T10.setTop (mkF m 78 #[.val (.ref o), .val (.int (256 : Int32)), .val (.int (1 : Int32)), .val (.int (2 : Int32)), .val (.int (1 : Int32))] [(.int (64 : Int32))]))
  refine Go.step (fun _ k => XS.bipush X10.here hx rfl (hb hby d1_78) k) ?_
  show Go _ _ _ _ (T10.setTop (mkF m 80 #[.val (.ref o), .val (.int (256 : Int32)), .val (.int (1 : Int32)), .val (.int (2 : Int32)), .val (.int (1 : Int32))] [(.int (6 : Int32)), (.int (64 : Int32))]))
  refine Go.step (fun _ k => XS.iushr X10.here hx rfl (hb hby d1_80) rfl k) ?_
  show Go _ _ _ _ (T10.setTop (mkF m 81 #[.val (.ref o), .val (.int (256 : Int32)), .val (.int (1 : Int32)), .val (.int (2 : Int32)), .val (.int (1 : Int32))] [(.int (((64 : Int32).toUInt32 >>> ((6 : Int32) &&& 31).toUInt32).toInt32))]))
  rw [(by decide : (((64 : Int32).toUInt32 >>> ((6 : Int32) &&& 31).toUInt32).toInt32) = (1 : Int32))]
  show Go _ _ _ _ (T10.setTop (mkF m 81 #[.val (.ref o), .val (.int (256 : Int32)), .val (.int (1 : Int32)), .val (.int (2 : Int32)), .val (.int (1 : Int32))] [(.int (1 : Int32))]))
  refine Go.step (fun _ k => XS.istoreN X10.here hx rfl (hb hby d1_81) rfl (l' := #[.val (.ref o), .val (.int (256 : Int32)), .val (.int (1 : Int32)), .val (.int (2 : Int32)), .val (.int (1 : Int32))]) rfl k) ?_
  show Go _ _ _ _ (T10.setTop (mkF m 82 #[.val (.ref o), .val (.int (256 : Int32)), .val (.int (1 : Int32)), .val (.int (2 : Int32)), .val (.int (1 : Int32))] []))
  refine Go.step (fun _ k => XS.iinc X10.here hx rfl (hb hby d1_82) rfl (l' := #[.val (.ref o), .val (.int (256 : Int32)), .val (.int (1 : Int32)), .val (.int (2 : Int32)), .val (.int (2 : Int32))]) rfl k) ?_
  show Go _ _ _ _ (T10.setTop (mkF m 85 #[.val (.ref o), .val (.int (256 : Int32)), .val (.int (1 : Int32)), .val (.int (2 : Int32)), .val (.int (2 : Int32))] []))
  refine Go.step (fun _ k => XS.goto X10.here hx rfl (pc0 := 85) (pc' := 58) rfl (hb hby d1_85) (by decide) (by decide) k) ?_
  show Go _ _ _ _ (T10.setTop (mkF m 58 #[.val (.ref o), .val (.int (256 : Int32)), .val (.int (1 : Int32)), .val (.int (2 : Int32)), .val (.int (2 : Int32))] []))
  refine Go.step (fun _ k => XS.iload X10.here hx rfl (hb hby d1_58) rfl k) ?_
  show Go _ _ _ _ (T10.setTop (mkF m 60 #[.val (.ref o), .val (.int (256 : Int32)), .val (.int (1 : Int32)), .val (.int (2 : Int32)), .val (.int (2 : Int32))] [(.int (2 : Int32))]))
  refine Go.step (fun _ k => XS.iloadN X10.here hx rfl (hb hby d1_60) rfl k) ?_
  show Go _ _ _ _ (T10.setTop (mkF m 61 #[.val (.ref o), .val (.int (256 : Int32)), .val (.int (1 : Int32)), .val (.int (2 : Int32)), .val (.int (2 : Int32))] [(.int (2 : Int32)), (.int (2 : Int32))]))
  refine Go.step (fun _ k => XS.icmpYes X10.here hx rfl (pc0 := 61) (pc' := 88) rfl (hb hby d1_61) rfl (flt (by decide : ¬ ((2 : Int32) < (2 : Int32)))).2.1 (by decide) (by decide) k) ?_
  show Go _ _ _ _ (T10.setTop (mkF m 88 #[.val (.ref o), .val (.int (256 : Int32)), .val (.int (1 : Int32)), .val (.int (2 : Int32)), .val (.int (2 : Int32))] []))
  refine Go.step (fun _ k => XS.aloadN X10.here hx rfl (hb hby d1_88) rfl rfl k) ?_
  show Go _ _ _ _ (T10.setTop (mkF m 89 #[.val (.ref o), .val (.int (256 : Int32)), .val (.int (1 : Int32)), .val (.int (2 : Int32)), .val (.int (2 : Int32))] [(.ref o)]))
  have gt0_ : n0 ≤ t0 := Nat.le_trans s_tl (Nat.le_of_lt lt_t0)
  have P0 : Lv Z h10 t0 4 (fun _ => false) := Lv.fresh A010 (by decide)
  have P1 : Lv Z h10 t1 1 (fun _ => false) := Lv.fresh A110 (by decide)
  have gt1_ : n0 ≤ t1 := Nat.le_trans s_tl (Nat.le_of_lt lt_t1)
  refine goV X10 hx hZ hown (hw _ (List.mem_of_getElem? (i := 18) rfl)) (hw _ (List.mem_of_getElem? (i := 19) rfl)) (notFace_of_selects (args := #[]) (mvT hZ (hw _ (List.mem_of_getElem? (i := 21) rfl)))) (hw _ (List.mem_of_getElem? (i := 21) rfl)) (hw _ (List.mem_of_getElem? (i := 20) rfl)) (hw _ (List.mem_of_getElem? (i := 3) rfl)) (hw _ (List.mem_of_getElem? (i := 22) rfl)) (by decide) (rmCl2 l Z a0 hw [] h10 o tl t0 t1 4 _ rfl rfl rfl P1 EO10 FX10_levels AT10 P0 (by decide) (by decide) n0 gt0_ gt1_ (Nat.ne_of_lt lo_t0) (Nat.ne_of_lt lt_t0) (Nat.ne_of_lt lo_t1) (Nat.ne_of_lt lt_t1) (Nat.ne_of_lt l01)) e10 EO10 (by rw [hml]; rfl) [] [] rfl pd3 rfl rfl 0 rfl (hb hby d1_89) (by decide) (by decide) (by decide) (by decide) fun TC LC vC qC XC => ?_
  obtain ⟨rfl, NC, KC, PC0, PC1⟩ := qC
  have OB : Obj Z TC.heap o 4 (fun _ => false) n0 := ⟨tl, t0, _, EO10.keep KC, FX10_capacity.keep KC (ninS (Nat.ne_of_lt lo_t0) (ninS (Nat.ne_of_lt lo_t1) nin0)), FX10_levels.keep KC (ninS (Nat.ne_of_lt lo_t0) (ninS (Nat.ne_of_lt lo_t1) nin0)), ⟨KC.2.1 _ _ AT10.1 (ninS (Nat.ne_of_lt lt_t0) (ninS (Nat.ne_of_lt lt_t1) nin0)), AT10.2⟩, rfl, PC0, gt0_, Nat.ne_of_lt lo_t0, Nat.ne_of_lt lt_t0, Or.inr ⟨rfl, by decide, t1, rfl, Nat.ne_of_gt l01, PC1⟩⟩
  show Go _ _ _ _ (TC.setTop (mkF m 92 #[.val (.ref o), .val (.int (256 : Int32)), .val (.int (1 : Int32)), .val (.int (2 : Int32)), .val (.int (2 : Int32))] []))
  exact leafV XC hx hret hlk (hb hby d1_92) ⟨rfl, (Fr.app NF10 NC), OB⟩ (by decide) (by decide)

theorem rmC (l : Launch) (Z : State) (a0 : Array Value) (hw : ∀ d ∈ tables_1, d.before a0 Z = true) (h0 : Heap) (o : Addr) (n0 N : Nat) (h1 : 1 ≤ N) (h4 : N ≤ 4) (Z0 : n0 ≤ h0.size) (g0 : n0 ≤ o) (E0 : Exa Z h0 o "com/example/prefix_scope/prefixscope/NumberSet") (FC0 : Fld Z h0 o "com/example/prefix_scope/prefixscope/NumberSet" "capacity" "I" (.int (0 : Int32))) (FL0 : Fld Z h0 o "com/example/prefix_scope/prefixscope/NumberSet" "levels" "[[J" .null) :
    Con l Z (⟨"com/example/prefix_scope/prefixscope/NumberSet", "<init>", "(I)V"⟩ : MethodName) prog_9_method_1_code 5 none [] ({ frames := 2, cells := 3, slots := 7, locals := 35 } : Room) #[.ref o, .int (Int32.ofNat (64 * N))] h0 (fun v h L => v = none ∧ Fr n0 L ∧ Obj Z h o N (fun _ => false) n0) := by
  obtain rfl | rfl | rfl | rfl : N = 1 ∨ N = 2 ∨ N = 3 ∨ N = 4 := by omega
  · exact rmC1 l Z a0 hw [] h0 o n0 Z0 g0 E0 FC0 FL0
  · exact rmC2 l Z a0 hw [] h0 o n0 Z0 g0 E0 FC0 FL0
  · exact rmC3 l Z a0 hw [] h0 o n0 Z0 g0 E0 FC0 FL0
  · exact rmC4 l Z a0 hw [] h0 o n0 Z0 g0 E0 FC0 FL0
theorem rmR (l : Launch) (Z : State) (a0 : Array Value) (hw : ∀ d ∈ tables_1, d.before a0 Z = true) (h0 : Heap) (o : Addr) (n0 N n : Nat) (g : Nat → Bool) (h4 : N ≤ 4) (hn : n < 64 * N) (hR : ∃ j, j < 64 ∧ g (64 * (n / 64) + j) = false) (O : Obj Z h0 o N g n0) :
    Con l Z (⟨"com/example/prefix_scope/prefixscope/NumberSet", "remove", "(I)V"⟩ : MethodName) prog_9_method_4_code 8 none [] ({ frames := 0, cells := 0, slots := 0, locals := 0 } : Room) #[.ref o, .int (Int32.ofNat n)] h0 (fun v h L => v = none ∧ Fr n0 L ∧ Obj Z h o N (fun y => g y && !decide (y = n)) n0) := by
  obtain ⟨tl, t0, cT, E, FC, FL, AT, hc0, P, g0, n1, n2, D⟩ := O
  have hs : 0 < cT.slots.size ∧ cT.slots.size ≤ 2 := by rcases D with D | D <;> omega
  intro p e ha hc hk s m args below hf happ hP hK
  obtain ⟨n', o', q1, q2, q3, v, L, q4, ⟨rfl, N_, K, PP⟩, q6⟩ := rm7 l Z a0 hw [] h0 o tl t0 n N cT g hs.2 hs.1 hc0 FL AT P hn h4 hR n0 g0 p e ha hc hk s m args below hf happ hP hK
  exact ⟨n', o', q1, q2, q3, none, L, q4, ⟨rfl, N_, Obj.put E FC FL AT hc0 g0 n1 n2 D K PP⟩, q6⟩
theorem rmF (l : Launch) (Z : State) (a0 : Array Value) (hw : ∀ d ∈ tables_1, d.before a0 Z = true) (h0 : Heap) (o : Addr) (n0 N f : Nat) (g : Nat → Bool) (h4 : N ≤ 4) (hf : f < 2147483648) (hR : ∀ w, w < N → ∃ j, j < 64 ∧ g (64 * w + j) = false) (O : Obj Z h0 o N g n0) :
    Con l Z (⟨"com/example/prefix_scope/prefixscope/NumberSet", "firstAbsent", "(I)I"⟩ : MethodName) prog_9_method_5_code 6 (some .int) [] ({ frames := 2, cells := 0, slots := 0, locals := 40 } : Room) #[.ref o, .int (Int32.ofNat f)] h0 (fun v h L => (∃ r : Nat, v = some (.int (Int32.ofNat r)) ∧ FA g N f r) ∧ h = h0 ∧ L = []) := by
  obtain ⟨tl, t0, cT, E, FC, FL, AT, hc0, P, g0, n1, n2, D⟩ := O
  rcases D with ⟨d1, d2⟩ | ⟨d1, d2, t1, d3, d4, d5⟩
  · exact rmA1 l Z a0 hw [] h0 o tl t0 N f cT g d1 hc0 FL FC AT P h4 d2 hf hR
  · exact rmA2 l Z a0 hw [] h0 o tl t0 t1 N f cT g d1 hc0 d3 d5 FL FC AT P h4 d2 hf hR

theorem d5_0 : decode prog_9_method_3_code 0 = .ok (.aload_n 0, 1) := by decide +kernel
theorem d5_1 : decode prog_9_method_3_code 1 = .ok (.iconst 0, 1) := by decide +kernel
theorem d5_2 : decode prog_9_method_3_code 2 = .ok (.iload_n 1, 1) := by decide +kernel
theorem d5_3 : decode prog_9_method_3_code 3 = .ok (.invokevirtual 22, 3) := by decide +kernel
theorem d5_6 : decode prog_9_method_3_code 6 = .ok (.return_, 1) := by decide +kernel
theorem pn5 : plainFor (⟨"com/example/prefix_scope/prefixscope/NumberSet", "add", "(I)V"⟩ : MethodName) = true := plainFor_of_name (by first | (simp [plainName, overriddenIn]; done) | decide +kernel)
theorem pd5 : parseMethodDescriptor "(I)V" = some ⟨[.int], none⟩ := by decide +kernel
theorem ef5 (m : MethodId) (o : Addr) (x1 : Int32) : entryFrame m #[(.ref o), (.int x1)] 2 = mkF m 0 #[.val (.ref o), .val (.int x1)] [] := by first | (simp [entryFrame, mkF, argsToLocals, Value.category]; done) | rfl
set_option maxRecDepth 65536 in
set_option maxHeartbeats 40000000 in
theorem rmD (l : Launch) (Z : State) (a0 : Array Value) (hw : ∀ d ∈ tables_1, d.before a0 Z = true) (ws : List Jvm.Cond)  (h0 : Heap) (o : Addr) (n0 N n : Nat) (g : Nat → Bool) (h4 : N ≤ 4) (hn : n < 64 * N) (hR : ∃ j, j < 64 ∧ (fun y => g y || decide (y = n)) (64 * (n / 64) + j) = false) (O : Obj Z h0 o N g n0) : Con l Z (⟨"com/example/prefix_scope/prefixscope/NumberSet", "add", "(I)V"⟩ : MethodName) prog_9_method_3_code 2 none ws ({ frames := 1, cells := 0, slots := 0, locals := 19 } : Room) #[(.ref o), (.int (Int32.ofNat n))] h0 (fun v h L => v = none ∧ Fr n0 L ∧ Obj Z h o N (fun y => g y || decide (y = n)) n0) := by
  refine Con.of pn5 fun p e s m below meth c s₁ hZ hx hby hml hown hret hlk hnm X0 e0 => ?_
  rw [ef5]
  obtain ⟨tl, t0, cT, E, FC, FL, AT, hc0, P, g0, n1, n2, D⟩ := O
  have hs : 0 < cT.slots.size ∧ cT.slots.size ≤ 2 := by rcases D with D | D <;> omega
  show Go _ _ _ _ (s₁.setTop (mkF m 0 #[.val (.ref o), .val (.int (Int32.ofNat n))] []))
  refine Go.step (fun _ k => XS.aloadN X0.here hx rfl (hb hby d5_0) rfl rfl k) ?_
  show Go _ _ _ _ (s₁.setTop (mkF m 1 #[.val (.ref o), .val (.int (Int32.ofNat n))] [(.ref o)]))
  refine Go.step (fun _ k => XS.iconst X0.here hx rfl (hb hby d5_1) k) ?_
  show Go _ _ _ _ (s₁.setTop (mkF m 2 #[.val (.ref o), .val (.int (Int32.ofNat n))] [(.int (0 : Int32)), (.ref o)]))
  refine Go.step (fun _ k => XS.iloadN X0.here hx rfl (hb hby d5_2) rfl k) ?_
  show Go _ _ _ _ (s₁.setTop (mkF m 3 #[.val (.ref o), .val (.int (Int32.ofNat n))] [(.int (Int32.ofNat n)), (.int (0 : Int32)), (.ref o)]))
  refine goP X0 hx hZ (C := "com/example/prefix_scope/prefixscope/NumberSet") hown (hw _ (List.mem_of_getElem? (i := 32) rfl)) (own_sel hZ (x := ⟨"com/example/prefix_scope/prefixscope/NumberSet", "clear", "()V"⟩) (hw _ (List.mem_of_getElem? (i := 21) rfl)) (hw _ (List.mem_of_getElem? (i := 33) rfl)) (hw _ (List.mem_of_getElem? (i := 34) rfl)) rfl (by decide)) (hw _ (List.mem_of_getElem? (i := 33) rfl)) (hw _ (List.mem_of_getElem? (i := 34) rfl)) (hw _ (List.mem_of_getElem? (i := 3) rfl)) (hw _ (List.mem_of_getElem? (i := 35) rfl)) (by decide) (rm6 l Z a0 hw [] h0 o tl t0 0 n N cT g hs.2 hs.1 hc0 FL AT P hn h4 hR n0 g0) e0 E (by rw [hml]; rfl) [.int (0 : Int32), .int (Int32.ofNat n)] [] rfl pd6 rfl rfl 0 rfl (hb hby d5_3) (by decide) (by decide) (by decide) (by decide) fun T1 L1 v1 q1 X1 => ?_
  obtain ⟨rfl, N1, K1, PP⟩ := q1
  show Go _ _ _ _ (T1.setTop (mkF m 6 #[.val (.ref o), .val (.int (Int32.ofNat n))] []))
  exact leafV X1 hx hret hlk (hb hby d5_6) ⟨rfl, Fr.app (Fr.nil n0) N1, Obj.put E FC FL AT hc0 g0 n1 n2 D K1 PP⟩ (by decide) (by decide)

theorem own_irem (x y : Int32) : x - (x / y) * y = x % y := by
  apply Int32.toInt_inj.mp
  have h1 := (x % y).le_toInt
  have h2 := (x % y).toInt_lt
  have e : (x - (x / y) * y).toInt = ((x % y).toInt).bmod (2 ^ 32) := by
    rw [Int32.toInt_sub, Int32.toInt_mul, Int32.toInt_div, Int32.toInt_mod, Int.tmod_def, Int.bmod_mul_bmod, Int.sub_bmod_bmod, Int.mul_comm y.toInt]
  rw [e]
  exact Int.bmod_eq_of_le_mul_two (by omega) (by omega)
theorem own_mod (x : Int32) (h0 : 0 ≤ x.toInt) (K : Nat) (hK : 0 < K) (hk : K < 2147483648) : ∃ n : Nat, n < K ∧ x - (x / Int32.ofNat K) * Int32.ofNat K = Int32.ofNat n := by
  rw [own_irem]
  have h2 := (c_irem x (Int32.ofNat K) K (own_i hk)).1 h0
  have h4 := Int.emod_nonneg x.toInt (show (K : Int) ≠ 0 by omega)
  have h5 := Int.emod_lt_of_pos x.toInt (show (0 : Int) < K by omega)
  obtain ⟨n, n1, n2, n3⟩ := own_nat (x % Int32.ofNat K) (by omega)
  exact ⟨n, by omega, n3⟩
theorem own_max (x : Int32) : 0 ≤ (x &&& (2147483647 : Int32)).toInt := (c_andS x 2147483647).2.2 (by decide)
theorem own_nz {K : Nat} (h : 0 < K) (hk : K < 2147483648) : Int32.ofNat K ≠ 0 := fun q => by
  have := (own_eq (i := K) (n := 0) hk (by omega)).mp q
  omega
theorem own_four (k : Int32) : ∃ N : Nat, 1 ≤ N ∧ N ≤ 4 ∧ ((k &&& (3 : Int32)) + (1 : Int32)) <<< ((6 : Int32) &&& 31) = Int32.ofNat (64 * N) := by
  have h := c_mask k 3 2 (by decide) (by decide)
  obtain ⟨n, n1, n2, n3⟩ := own_nat (k &&& 3) (by rw [h]; omega)
  have hn : n < 4 := by rw [h] at n2; omega
  refine ⟨n + 1, by omega, by omega, ?_⟩
  rw [n3, own_one, own_shl6 (by omega)]
theorem own_room (g : Nat → Bool) (a b : Nat) (h : ∀ y, g y = true → y = a ∨ y = b) (w : Nat) : ∃ j, j < 64 ∧ g (64 * w + j) = false := by
  have q : ∀ j, g (64 * w + j) = true ∨ g (64 * w + j) = false := fun j => by cases g (64 * w + j) <;> simp
  rcases q 0 with q0 | q0
  · rcases q 1 with q1 | q1
    · rcases q 2 with q2 | q2
      · have := h _ q0; have := h _ q1; have := h _ q2; omega
      · exact ⟨2, by omega, q2⟩
    · exact ⟨1, by omega, q1⟩
  · exact ⟨0, by omega, q0⟩
def own_g (a b c d : Nat) : Nat → Bool := fun y => ((((fun _ => false) y || decide (y = a)) && !decide (y = c)) || decide (y = b)) && !decide (y = d)
theorem own_g1 (a b c d y : Nat) : own_g a b c d y = decide (((y = a ∧ ¬ y = c) ∨ y = b) ∧ ¬ y = d) := by
  simp [own_g]
theorem own_gin (a b c d y : Nat) (h : own_g a b c d y = true) : y = a ∨ y = b := by
  rw [own_g1] at h
  have := of_decide_eq_true h
  omega
theorem own_inN {a b c d x : Nat} (ha : a < 256) (hb : b < 256) (hc : c < 256) (hd : d < 256) (hx : x < 2147483648) : own_up (Int32.ofNat x) (Int32.ofNat a) (Int32.ofNat b) (Int32.ofNat c) (Int32.ofNat d) = if own_g a b c d x = true then Int32.ofNat (x + 1) else Int32.ofNat x := by
  have e : own_inn (Int32.ofNat x) (Int32.ofNat a) (Int32.ofNat b) (Int32.ofNat c) (Int32.ofNat d) = if own_g a b c d x = true then 1 else 0 := by
    rw [own_g1, own_inn]
    simp only [own_eq hx (show a < 2147483648 by omega), own_eq hx (show b < 2147483648 by omega), own_eq hx (show c < 2147483648 by omega), own_eq hx (show d < 2147483648 by omega), decide_eq_true_eq]
  rw [own_up, e]
  by_cases q : own_g a b c d x = true
  · rw [if_pos q, if_pos q, if_neg (by decide), own_one]
  · rw [if_neg q, if_neg q, if_pos rfl]
theorem own_minN {x k : Nat} (hx : x < 2147483648) (hk : k < 2147483648) : own_min (Int32.ofNat x) (Int32.ofNat k) = Int32.ofNat (min x k) := by
  rw [own_min]
  by_cases q : k < x
  · rw [if_pos ((own_lt hk hx).mpr q), Nat.min_eq_right (by omega)]
  · rw [if_neg (fun z => q ((own_lt hk hx).mp z)), Nat.min_eq_left (by omega)]
theorem own_final {a b c d f N r : Nat} (h4 : N ≤ 4) (ha : a < 64 * N) (hb : b < 64 * N) (hc : c < 64 * N) (hd : d < 64 * N) (hf : f < 2147483648) (h : FA (own_g a b c d) N f r) : Int32.ofNat r = own_ref (Int32.ofNat f) (Int32.ofNat a) (Int32.ofNat b) (Int32.ofNat c) (Int32.ofNat d) (Int32.ofNat (64 * N)) := by
  have U := fun {x : Nat} (hx : x < 2147483648) => own_inN (a := a) (b := b) (c := c) (d := d) (x := x) (by omega) (by omega) (by omega) (by omega) hx
  have out : ∀ y, 64 * N ≤ y → ¬ own_g a b c d y = true := fun y hy q => by have := own_gin a b c d y q; omega
  rw [own_ref]
  rcases h with ⟨h1, rfl⟩ | ⟨h1, h2, h3, h5, h6⟩
  · rw [U hf, if_neg (out f h1), U hf, if_neg (out f h1), own_minN hf (by omega), Nat.min_eq_right (by omega)]
  · have r3 : r ≤ f + 2 := by
      apply Nat.le_of_not_lt
      intro q
      have := own_gin _ _ _ _ _ (h6 f (by omega) (by omega)); have := own_gin _ _ _ _ _ (h6 (f + 1) (by omega) (by omega)); have := own_gin _ _ _ _ _ (h6 (f + 2) (by omega) (by omega))
      omega
    have rn : ¬ own_g a b c d r = true := by
      by_cases q : r < 64 * N
      · rw [h5 q]; decide
      · exact out r (by omega)
    obtain rfl | rfl | rfl : r = f ∨ r = f + 1 ∨ r = f + 2 := by omega
    · rw [U (by omega), if_neg rn, U (by omega), if_neg rn, own_minN (by omega) (by omega), Nat.min_eq_left (by omega)]
    · rw [U (by omega), if_pos (h6 f (by omega) (by omega)), U (by omega), if_neg rn, own_minN (by omega) (by omega), Nat.min_eq_left (by omega)]
    · rw [U (by omega), if_pos (h6 f (by omega) (by omega)), U (by omega), if_pos (h6 (f + 1) (by omega) (by omega)), own_minN (by omega) (by omega), Nat.min_eq_left (by omega)]

theorem pn0 : plainFor x = true := plainFor_of_name (by first | (simp [plainName, overriddenIn, x]; done) | decide +kernel)
theorem ef0 (m : MethodId) (x0 : Int32) (x1 : Int32) (x2 : Int32) (x3 : Int32) (x4 : Int32) (x5 : Int32) : entryFrame m #[(.int x0), (.int x1), (.int x2), (.int x3), (.int x4), (.int x5)] maxLocals = mkF m 0 #[.val (.int x0), .val (.int x1), .val (.int x2), .val (.int x3), .val (.int x4), .val (.int x5), .unset, .unset, .unset, .unset, .unset, .unset, .unset, .unset, .unset, .unset] [] := by first | (simp [entryFrame, mkF, argsToLocals, Value.category, maxLocals]; done) | rfl
set_option maxRecDepth 65536 in
set_option maxHeartbeats 40000000 in
theorem rm0 (l : Launch) (Z : State) (a0 : Array Value) (hw : ∀ d ∈ tables_1, d.before a0 Z = true) (ws : List Jvm.Cond) (x0 : Int32) (x1 : Int32) (x2 : Int32) (x3 : Int32) (x4 : Int32) (x5 : Int32) (h0 : Heap) : Con l Z x code maxLocals ret ws room_1 #[(.int x0), (.int x1), (.int x2), (.int x3), (.int x4), (.int x5)] h0 (fun v h L => v = some (.int 1) ∧ Fr h0.size L) := by
  refine Con.of pn0 fun p e s m below meth c s₁ hZ hx hby hml hown hret hlk hnm X0 e0 => ?_
  rw [ef0]
  show Go _ _ _ _ (s₁.setTop (mkF m 0 #[.val (.int x0), .val (.int x1), .val (.int x2), .val (.int x3), .val (.int x4), .val (.int x5), .unset, .unset, .unset, .unset, .unset, .unset, .unset, .unset, .unset, .unset] []))
  refine Go.step (fun _ k => XS.iloadN X0.here hx rfl (hb hby at_0) rfl k) ?_
  show Go _ _ _ _ (s₁.setTop (mkF m 1 #[.val (.int x0), .val (.int x1), .val (.int x2), .val (.int x3), .val (.int x4), .val (.int x5), .unset, .unset, .unset, .unset, .unset, .unset, .unset, .unset, .unset, .unset] [(.int x0)]))
  refine Go.step (fun _ k => XS.iconst X0.here hx rfl (hb hby at_1) k) ?_
  show Go _ _ _ _ (s₁.setTop (mkF m 2 #[.val (.int x0), .val (.int x1), .val (.int x2), .val (.int x3), .val (.int x4), .val (.int x5), .unset, .unset, .unset, .unset, .unset, .unset, .unset, .unset, .unset, .unset] [(.int (3 : Int32)), (.int x0)]))
  refine Go.step (fun _ k => XS.iand X0.here hx rfl (hb hby at_2) rfl k) ?_
  show Go _ _ _ _ (s₁.setTop (mkF m 3 #[.val (.int x0), .val (.int x1), .val (.int x2), .val (.int x3), .val (.int x4), .val (.int x5), .unset, .unset, .unset, .unset, .unset, .unset, .unset, .unset, .unset, .unset] [(.int (x0 &&& (3 : Int32)))]))
  refine Go.step (fun _ k => XS.iconst X0.here hx rfl (hb hby at_3) k) ?_
  show Go _ _ _ _ (s₁.setTop (mkF m 4 #[.val (.int x0), .val (.int x1), .val (.int x2), .val (.int x3), .val (.int x4), .val (.int x5), .unset, .unset, .unset, .unset, .unset, .unset, .unset, .unset, .unset, .unset] [(.int (1 : Int32)), (.int (x0 &&& (3 : Int32)))]))
  refine Go.step (fun _ k => XS.iadd X0.here hx rfl (hb hby at_4) rfl k) ?_
  show Go _ _ _ _ (s₁.setTop (mkF m 5 #[.val (.int x0), .val (.int x1), .val (.int x2), .val (.int x3), .val (.int x4), .val (.int x5), .unset, .unset, .unset, .unset, .unset, .unset, .unset, .unset, .unset, .unset] [(.int ((x0 &&& (3 : Int32)) + (1 : Int32)))]))
  refine Go.step (fun _ k => XS.bipush X0.here hx rfl (hb hby at_5) k) ?_
  show Go _ _ _ _ (s₁.setTop (mkF m 7 #[.val (.int x0), .val (.int x1), .val (.int x2), .val (.int x3), .val (.int x4), .val (.int x5), .unset, .unset, .unset, .unset, .unset, .unset, .unset, .unset, .unset, .unset] [(.int (6 : Int32)), (.int ((x0 &&& (3 : Int32)) + (1 : Int32)))]))
  refine Go.step (fun _ k => XS.ishl X0.here hx rfl (hb hby at_7) rfl k) ?_
  show Go _ _ _ _ (s₁.setTop (mkF m 8 #[.val (.int x0), .val (.int x1), .val (.int x2), .val (.int x3), .val (.int x4), .val (.int x5), .unset, .unset, .unset, .unset, .unset, .unset, .unset, .unset, .unset, .unset] [(.int (((x0 &&& (3 : Int32)) + (1 : Int32)) <<< ((6 : Int32) &&& 31)))]))
  refine Go.step (fun _ k => XS.istore X0.here hx rfl (hb hby at_8) rfl (l' := #[.val (.int x0), .val (.int x1), .val (.int x2), .val (.int x3), .val (.int x4), .val (.int x5), .val (.int (((x0 &&& (3 : Int32)) + (1 : Int32)) <<< ((6 : Int32) &&& 31))), .unset, .unset, .unset, .unset, .unset, .unset, .unset, .unset, .unset]) rfl k) ?_
  show Go _ _ _ _ (s₁.setTop (mkF m 10 #[.val (.int x0), .val (.int x1), .val (.int x2), .val (.int x3), .val (.int x4), .val (.int x5), .val (.int (((x0 &&& (3 : Int32)) + (1 : Int32)) <<< ((6 : Int32) &&& 31))), .unset, .unset, .unset, .unset, .unset, .unset, .unset, .unset, .unset] []))
  obtain ⟨N, hN1, hN4, hNe⟩ := own_four x0
  rw [hNe]
  show Go _ _ _ _ (s₁.setTop (mkF m 10 #[.val (.int x0), .val (.int x1), .val (.int x2), .val (.int x3), .val (.int x4), .val (.int x5), .val (.int (Int32.ofNat (64 * N))), .unset, .unset, .unset, .unset, .unset, .unset, .unset, .unset, .unset] []))
  refine Go.step (fun _ k => XS.iloadN X0.here hx rfl (hb hby at_10) rfl k) ?_
  show Go _ _ _ _ (s₁.setTop (mkF m 11 #[.val (.int x0), .val (.int x1), .val (.int x2), .val (.int x3), .val (.int x4), .val (.int x5), .val (.int (Int32.ofNat (64 * N))), .unset, .unset, .unset, .unset, .unset, .unset, .unset, .unset, .unset] [(.int x1)]))
  refine Go.step (X0.ldcInt hx hown (mvT hZ (hw _ (List.mem_of_getElem? (i := 0) rfl))) (g := (mkF m 11 #[.val (.int x0), .val (.int x1), .val (.int x2), .val (.int x3), .val (.int x4), .val (.int x5), .val (.int (Int32.ofNat (64 * N))), .unset, .unset, .unset, .unset, .unset, .unset, .unset, .unset, .unset] [(.int x1)])) rfl (hb hby at_11)) ?_
  show Go _ _ _ _ (s₁.setTop (mkF m 13 #[.val (.int x0), .val (.int x1), .val (.int x2), .val (.int x3), .val (.int x4), .val (.int x5), .val (.int (Int32.ofNat (64 * N))), .unset, .unset, .unset, .unset, .unset, .unset, .unset, .unset, .unset] [(.int (2147483647 : Int32)), (.int x1)]))
  refine Go.step (fun _ k => XS.iand X0.here hx rfl (hb hby at_13) rfl k) ?_
  show Go _ _ _ _ (s₁.setTop (mkF m 14 #[.val (.int x0), .val (.int x1), .val (.int x2), .val (.int x3), .val (.int x4), .val (.int x5), .val (.int (Int32.ofNat (64 * N))), .unset, .unset, .unset, .unset, .unset, .unset, .unset, .unset, .unset] [(.int (x1 &&& (2147483647 : Int32)))]))
  refine Go.step (fun _ k => XS.iload X0.here hx rfl (hb hby at_14) rfl k) ?_
  show Go _ _ _ _ (s₁.setTop (mkF m 16 #[.val (.int x0), .val (.int x1), .val (.int x2), .val (.int x3), .val (.int x4), .val (.int x5), .val (.int (Int32.ofNat (64 * N))), .unset, .unset, .unset, .unset, .unset, .unset, .unset, .unset, .unset] [(.int (Int32.ofNat (64 * N))), (.int (x1 &&& (2147483647 : Int32)))]))
  refine Go.step (fun _ k => XS.irem X0.here hx rfl (hb hby at_16) rfl (own_nz (by omega) (by omega)) k) ?_
  show Go _ _ _ _ (s₁.setTop (mkF m 17 #[.val (.int x0), .val (.int x1), .val (.int x2), .val (.int x3), .val (.int x4), .val (.int x5), .val (.int (Int32.ofNat (64 * N))), .unset, .unset, .unset, .unset, .unset, .unset, .unset, .unset, .unset] [(.int ((x1 &&& (2147483647 : Int32)) - ((x1 &&& (2147483647 : Int32)) / (Int32.ofNat (64 * N))) * (Int32.ofNat (64 * N))))]))
  refine Go.step (fun _ k => XS.istore X0.here hx rfl (hb hby at_17) rfl (l' := #[.val (.int x0), .val (.int x1), .val (.int x2), .val (.int x3), .val (.int x4), .val (.int x5), .val (.int (Int32.ofNat (64 * N))), .val (.int ((x1 &&& (2147483647 : Int32)) - ((x1 &&& (2147483647 : Int32)) / (Int32.ofNat (64 * N))) * (Int32.ofNat (64 * N)))), .unset, .unset, .unset, .unset, .unset, .unset, .unset, .unset]) rfl k) ?_
  show Go _ _ _ _ (s₁.setTop (mkF m 19 #[.val (.int x0), .val (.int x1), .val (.int x2), .val (.int x3), .val (.int x4), .val (.int x5), .val (.int (Int32.ofNat (64 * N))), .val (.int ((x1 &&& (2147483647 : Int32)) - ((x1 &&& (2147483647 : Int32)) / (Int32.ofNat (64 * N))) * (Int32.ofNat (64 * N)))), .unset, .unset, .unset, .unset, .unset, .unset, .unset, .unset] []))
  obtain ⟨a, ha, ae⟩ := own_mod (x1 &&& (2147483647 : Int32)) (own_max x1) (64 * N) (by omega) (by omega)
  rw [ae]
  show Go _ _ _ _ (s₁.setTop (mkF m 19 #[.val (.int x0), .val (.int x1), .val (.int x2), .val (.int x3), .val (.int x4), .val (.int x5), .val (.int (Int32.ofNat (64 * N))), .val (.int (Int32.ofNat a)), .unset, .unset, .unset, .unset, .unset, .unset, .unset, .unset] []))
  refine Go.step (fun _ k => XS.iloadN X0.here hx rfl (hb hby at_19) rfl k) ?_
  show Go _ _ _ _ (s₁.setTop (mkF m 20 #[.val (.int x0), .val (.int x1), .val (.int x2), .val (.int x3), .val (.int x4), .val (.int x5), .val (.int (Int32.ofNat (64 * N))), .val (.int (Int32.ofNat a)), .unset, .unset, .unset, .unset, .unset, .unset, .unset, .unset] [(.int x2)]))
  refine Go.step (X0.ldcInt hx hown (mvT hZ (hw _ (List.mem_of_getElem? (i := 0) rfl))) (g := (mkF m 20 #[.val (.int x0), .val (.int x1), .val (.int x2), .val (.int x3), .val (.int x4), .val (.int x5), .val (.int (Int32.ofNat (64 * N))), .val (.int (Int32.ofNat a)), .unset, .unset, .unset, .unset, .unset, .unset, .unset, .unset] [(.int x2)])) rfl (hb hby at_20)) ?_
  show Go _ _ _ _ (s₁.setTop (mkF m 22 #[.val (.int x0), .val (.int x1), .val (.int x2), .val (.int x3), .val (.int x4), .val (.int x5), .val (.int (Int32.ofNat (64 * N))), .val (.int (Int32.ofNat a)), .unset, .unset, .unset, .unset, .unset, .unset, .unset, .unset] [(.int (2147483647 : Int32)), (.int x2)]))
  refine Go.step (fun _ k => XS.iand X0.here hx rfl (hb hby at_22) rfl k) ?_
  show Go _ _ _ _ (s₁.setTop (mkF m 23 #[.val (.int x0), .val (.int x1), .val (.int x2), .val (.int x3), .val (.int x4), .val (.int x5), .val (.int (Int32.ofNat (64 * N))), .val (.int (Int32.ofNat a)), .unset, .unset, .unset, .unset, .unset, .unset, .unset, .unset] [(.int (x2 &&& (2147483647 : Int32)))]))
  refine Go.step (fun _ k => XS.iload X0.here hx rfl (hb hby at_23) rfl k) ?_
  show Go _ _ _ _ (s₁.setTop (mkF m 25 #[.val (.int x0), .val (.int x1), .val (.int x2), .val (.int x3), .val (.int x4), .val (.int x5), .val (.int (Int32.ofNat (64 * N))), .val (.int (Int32.ofNat a)), .unset, .unset, .unset, .unset, .unset, .unset, .unset, .unset] [(.int (Int32.ofNat (64 * N))), (.int (x2 &&& (2147483647 : Int32)))]))
  refine Go.step (fun _ k => XS.irem X0.here hx rfl (hb hby at_25) rfl (own_nz (by omega) (by omega)) k) ?_
  show Go _ _ _ _ (s₁.setTop (mkF m 26 #[.val (.int x0), .val (.int x1), .val (.int x2), .val (.int x3), .val (.int x4), .val (.int x5), .val (.int (Int32.ofNat (64 * N))), .val (.int (Int32.ofNat a)), .unset, .unset, .unset, .unset, .unset, .unset, .unset, .unset] [(.int ((x2 &&& (2147483647 : Int32)) - ((x2 &&& (2147483647 : Int32)) / (Int32.ofNat (64 * N))) * (Int32.ofNat (64 * N))))]))
  refine Go.step (fun _ k => XS.istore X0.here hx rfl (hb hby at_26) rfl (l' := #[.val (.int x0), .val (.int x1), .val (.int x2), .val (.int x3), .val (.int x4), .val (.int x5), .val (.int (Int32.ofNat (64 * N))), .val (.int (Int32.ofNat a)), .val (.int ((x2 &&& (2147483647 : Int32)) - ((x2 &&& (2147483647 : Int32)) / (Int32.ofNat (64 * N))) * (Int32.ofNat (64 * N)))), .unset, .unset, .unset, .unset, .unset, .unset, .unset]) rfl k) ?_
  show Go _ _ _ _ (s₁.setTop (mkF m 28 #[.val (.int x0), .val (.int x1), .val (.int x2), .val (.int x3), .val (.int x4), .val (.int x5), .val (.int (Int32.ofNat (64 * N))), .val (.int (Int32.ofNat a)), .val (.int ((x2 &&& (2147483647 : Int32)) - ((x2 &&& (2147483647 : Int32)) / (Int32.ofNat (64 * N))) * (Int32.ofNat (64 * N)))), .unset, .unset, .unset, .unset, .unset, .unset, .unset] []))
  obtain ⟨bb, hbb, bbe⟩ := own_mod (x2 &&& (2147483647 : Int32)) (own_max x2) (64 * N) (by omega) (by omega)
  rw [bbe]
  show Go _ _ _ _ (s₁.setTop (mkF m 28 #[.val (.int x0), .val (.int x1), .val (.int x2), .val (.int x3), .val (.int x4), .val (.int x5), .val (.int (Int32.ofNat (64 * N))), .val (.int (Int32.ofNat a)), .val (.int (Int32.ofNat bb)), .unset, .unset, .unset, .unset, .unset, .unset, .unset] []))
  refine Go.step (fun _ k => XS.iloadN X0.here hx rfl (hb hby at_28) rfl k) ?_
  show Go _ _ _ _ (s₁.setTop (mkF m 29 #[.val (.int x0), .val (.int x1), .val (.int x2), .val (.int x3), .val (.int x4), .val (.int x5), .val (.int (Int32.ofNat (64 * N))), .val (.int (Int32.ofNat a)), .val (.int (Int32.ofNat bb)), .unset, .unset, .unset, .unset, .unset, .unset, .unset] [(.int x3)]))
  refine Go.step (X0.ldcInt hx hown (mvT hZ (hw _ (List.mem_of_getElem? (i := 0) rfl))) (g := (mkF m 29 #[.val (.int x0), .val (.int x1), .val (.int x2), .val (.int x3), .val (.int x4), .val (.int x5), .val (.int (Int32.ofNat (64 * N))), .val (.int (Int32.ofNat a)), .val (.int (Int32.ofNat bb)), .unset, .unset, .unset, .unset, .unset, .unset, .unset] [(.int x3)])) rfl (hb hby at_29)) ?_
  show Go _ _ _ _ (s₁.setTop (mkF m 31 #[.val (.int x0), .val (.int x1), .val (.int x2), .val (.int x3), .val (.int x4), .val (.int x5), .val (.int (Int32.ofNat (64 * N))), .val (.int (Int32.ofNat a)), .val (.int (Int32.ofNat bb)), .unset, .unset, .unset, .unset, .unset, .unset, .unset] [(.int (2147483647 : Int32)), (.int x3)]))
  refine Go.step (fun _ k => XS.iand X0.here hx rfl (hb hby at_31) rfl k) ?_
  show Go _ _ _ _ (s₁.setTop (mkF m 32 #[.val (.int x0), .val (.int x1), .val (.int x2), .val (.int x3), .val (.int x4), .val (.int x5), .val (.int (Int32.ofNat (64 * N))), .val (.int (Int32.ofNat a)), .val (.int (Int32.ofNat bb)), .unset, .unset, .unset, .unset, .unset, .unset, .unset] [(.int (x3 &&& (2147483647 : Int32)))]))
  refine Go.step (fun _ k => XS.iload X0.here hx rfl (hb hby at_32) rfl k) ?_
  show Go _ _ _ _ (s₁.setTop (mkF m 34 #[.val (.int x0), .val (.int x1), .val (.int x2), .val (.int x3), .val (.int x4), .val (.int x5), .val (.int (Int32.ofNat (64 * N))), .val (.int (Int32.ofNat a)), .val (.int (Int32.ofNat bb)), .unset, .unset, .unset, .unset, .unset, .unset, .unset] [(.int (Int32.ofNat (64 * N))), (.int (x3 &&& (2147483647 : Int32)))]))
  refine Go.step (fun _ k => XS.irem X0.here hx rfl (hb hby at_34) rfl (own_nz (by omega) (by omega)) k) ?_
  show Go _ _ _ _ (s₁.setTop (mkF m 35 #[.val (.int x0), .val (.int x1), .val (.int x2), .val (.int x3), .val (.int x4), .val (.int x5), .val (.int (Int32.ofNat (64 * N))), .val (.int (Int32.ofNat a)), .val (.int (Int32.ofNat bb)), .unset, .unset, .unset, .unset, .unset, .unset, .unset] [(.int ((x3 &&& (2147483647 : Int32)) - ((x3 &&& (2147483647 : Int32)) / (Int32.ofNat (64 * N))) * (Int32.ofNat (64 * N))))]))
  refine Go.step (fun _ k => XS.istore X0.here hx rfl (hb hby at_35) rfl (l' := #[.val (.int x0), .val (.int x1), .val (.int x2), .val (.int x3), .val (.int x4), .val (.int x5), .val (.int (Int32.ofNat (64 * N))), .val (.int (Int32.ofNat a)), .val (.int (Int32.ofNat bb)), .val (.int ((x3 &&& (2147483647 : Int32)) - ((x3 &&& (2147483647 : Int32)) / (Int32.ofNat (64 * N))) * (Int32.ofNat (64 * N)))), .unset, .unset, .unset, .unset, .unset, .unset]) rfl k) ?_
  show Go _ _ _ _ (s₁.setTop (mkF m 37 #[.val (.int x0), .val (.int x1), .val (.int x2), .val (.int x3), .val (.int x4), .val (.int x5), .val (.int (Int32.ofNat (64 * N))), .val (.int (Int32.ofNat a)), .val (.int (Int32.ofNat bb)), .val (.int ((x3 &&& (2147483647 : Int32)) - ((x3 &&& (2147483647 : Int32)) / (Int32.ofNat (64 * N))) * (Int32.ofNat (64 * N)))), .unset, .unset, .unset, .unset, .unset, .unset] []))
  obtain ⟨c_, hc_, c_e⟩ := own_mod (x3 &&& (2147483647 : Int32)) (own_max x3) (64 * N) (by omega) (by omega)
  rw [c_e]
  show Go _ _ _ _ (s₁.setTop (mkF m 37 #[.val (.int x0), .val (.int x1), .val (.int x2), .val (.int x3), .val (.int x4), .val (.int x5), .val (.int (Int32.ofNat (64 * N))), .val (.int (Int32.ofNat a)), .val (.int (Int32.ofNat bb)), .val (.int (Int32.ofNat c_)), .unset, .unset, .unset, .unset, .unset, .unset] []))
  refine Go.step (fun _ k => XS.iload X0.here hx rfl (hb hby at_37) rfl k) ?_
  show Go _ _ _ _ (s₁.setTop (mkF m 39 #[.val (.int x0), .val (.int x1), .val (.int x2), .val (.int x3), .val (.int x4), .val (.int x5), .val (.int (Int32.ofNat (64 * N))), .val (.int (Int32.ofNat a)), .val (.int (Int32.ofNat bb)), .val (.int (Int32.ofNat c_)), .unset, .unset, .unset, .unset, .unset, .unset] [(.int x4)]))
  refine Go.step (X0.ldcInt hx hown (mvT hZ (hw _ (List.mem_of_getElem? (i := 0) rfl))) (g := (mkF m 39 #[.val (.int x0), .val (.int x1), .val (.int x2), .val (.int x3), .val (.int x4), .val (.int x5), .val (.int (Int32.ofNat (64 * N))), .val (.int (Int32.ofNat a)), .val (.int (Int32.ofNat bb)), .val (.int (Int32.ofNat c_)), .unset, .unset, .unset, .unset, .unset, .unset] [(.int x4)])) rfl (hb hby at_39)) ?_
  show Go _ _ _ _ (s₁.setTop (mkF m 41 #[.val (.int x0), .val (.int x1), .val (.int x2), .val (.int x3), .val (.int x4), .val (.int x5), .val (.int (Int32.ofNat (64 * N))), .val (.int (Int32.ofNat a)), .val (.int (Int32.ofNat bb)), .val (.int (Int32.ofNat c_)), .unset, .unset, .unset, .unset, .unset, .unset] [(.int (2147483647 : Int32)), (.int x4)]))
  refine Go.step (fun _ k => XS.iand X0.here hx rfl (hb hby at_41) rfl k) ?_
  show Go _ _ _ _ (s₁.setTop (mkF m 42 #[.val (.int x0), .val (.int x1), .val (.int x2), .val (.int x3), .val (.int x4), .val (.int x5), .val (.int (Int32.ofNat (64 * N))), .val (.int (Int32.ofNat a)), .val (.int (Int32.ofNat bb)), .val (.int (Int32.ofNat c_)), .unset, .unset, .unset, .unset, .unset, .unset] [(.int (x4 &&& (2147483647 : Int32)))]))
  refine Go.step (fun _ k => XS.iload X0.here hx rfl (hb hby at_42) rfl k) ?_
  show Go _ _ _ _ (s₁.setTop (mkF m 44 #[.val (.int x0), .val (.int x1), .val (.int x2), .val (.int x3), .val (.int x4), .val (.int x5), .val (.int (Int32.ofNat (64 * N))), .val (.int (Int32.ofNat a)), .val (.int (Int32.ofNat bb)), .val (.int (Int32.ofNat c_)), .unset, .unset, .unset, .unset, .unset, .unset] [(.int (Int32.ofNat (64 * N))), (.int (x4 &&& (2147483647 : Int32)))]))
  refine Go.step (fun _ k => XS.irem X0.here hx rfl (hb hby at_44) rfl (own_nz (by omega) (by omega)) k) ?_
  show Go _ _ _ _ (s₁.setTop (mkF m 45 #[.val (.int x0), .val (.int x1), .val (.int x2), .val (.int x3), .val (.int x4), .val (.int x5), .val (.int (Int32.ofNat (64 * N))), .val (.int (Int32.ofNat a)), .val (.int (Int32.ofNat bb)), .val (.int (Int32.ofNat c_)), .unset, .unset, .unset, .unset, .unset, .unset] [(.int ((x4 &&& (2147483647 : Int32)) - ((x4 &&& (2147483647 : Int32)) / (Int32.ofNat (64 * N))) * (Int32.ofNat (64 * N))))]))
  refine Go.step (fun _ k => XS.istore X0.here hx rfl (hb hby at_45) rfl (l' := #[.val (.int x0), .val (.int x1), .val (.int x2), .val (.int x3), .val (.int x4), .val (.int x5), .val (.int (Int32.ofNat (64 * N))), .val (.int (Int32.ofNat a)), .val (.int (Int32.ofNat bb)), .val (.int (Int32.ofNat c_)), .val (.int ((x4 &&& (2147483647 : Int32)) - ((x4 &&& (2147483647 : Int32)) / (Int32.ofNat (64 * N))) * (Int32.ofNat (64 * N)))), .unset, .unset, .unset, .unset, .unset]) rfl k) ?_
  show Go _ _ _ _ (s₁.setTop (mkF m 47 #[.val (.int x0), .val (.int x1), .val (.int x2), .val (.int x3), .val (.int x4), .val (.int x5), .val (.int (Int32.ofNat (64 * N))), .val (.int (Int32.ofNat a)), .val (.int (Int32.ofNat bb)), .val (.int (Int32.ofNat c_)), .val (.int ((x4 &&& (2147483647 : Int32)) - ((x4 &&& (2147483647 : Int32)) / (Int32.ofNat (64 * N))) * (Int32.ofNat (64 * N)))), .unset, .unset, .unset, .unset, .unset] []))
  obtain ⟨d, hd, de⟩ := own_mod (x4 &&& (2147483647 : Int32)) (own_max x4) (64 * N) (by omega) (by omega)
  rw [de]
  show Go _ _ _ _ (s₁.setTop (mkF m 47 #[.val (.int x0), .val (.int x1), .val (.int x2), .val (.int x3), .val (.int x4), .val (.int x5), .val (.int (Int32.ofNat (64 * N))), .val (.int (Int32.ofNat a)), .val (.int (Int32.ofNat bb)), .val (.int (Int32.ofNat c_)), .val (.int (Int32.ofNat d)), .unset, .unset, .unset, .unset, .unset] []))
  have tail : ∀ f : Nat, f < 2147483648 → Go p.tables e below (EndsAs s room_1.cells room_1.slots (fun v h L => v = some (.int 1) ∧ Fr h0.size L)) (s₁.setTop (mkF m 69 #[.val (.int x0), .val (.int x1), .val (.int x2), .val (.int x3), .val (.int x4), .val (.int x5), .val (.int (Int32.ofNat (64 * N))), .val (.int (Int32.ofNat a)), .val (.int (Int32.ofNat bb)), .val (.int (Int32.ofNat c_)), .val (.int (Int32.ofNat d)), .val (.int (Int32.ofNat f)), .unset, .unset, .unset, .unset] [])) := by
    intro f hf
    show Go _ _ _ _ (s₁.setTop (mkF m 69 #[.val (.int x0), .val (.int x1), .val (.int x2), .val (.int x3), .val (.int x4), .val (.int x5), .val (.int (Int32.ofNat (64 * N))), .val (.int (Int32.ofNat a)), .val (.int (Int32.ofNat bb)), .val (.int (Int32.ofNat c_)), .val (.int (Int32.ofNat d)), .val (.int (Int32.ofNat f)), .unset, .unset, .unset, .unset] []))
    obtain ⟨T1, h1, X1, e1, E1, A1, D1, -, st1⟩ := newO X0 hx hZ hown (hw _ (List.mem_of_getElem? (i := 1) rfl)) (hw _ (List.mem_of_getElem? (i := 2) rfl)) (hw _ (List.mem_of_getElem? (i := 3) rfl)) e0 (g := (mkF m 69 #[.val (.int x0), .val (.int x1), .val (.int x2), .val (.int x3), .val (.int x4), .val (.int x5), .val (.int (Int32.ofNat (64 * N))), .val (.int (Int32.ofNat a)), .val (.int (Int32.ofNat bb)), .val (.int (Int32.ofNat c_)), .val (.int (Int32.ofNat d)), .val (.int (Int32.ofNat f)), .unset, .unset, .unset, .unset] [])) rfl (hb hby at_69) (by decide) (by decide)
    obtain ⟨b1, g1⟩ : ∃ z, z = h0.size := ⟨_, rfl⟩
    rw [← g1] at A1 D1 st1
    have F1_capacity : Fld Z h1 b1 "com/example/prefix_scope/prefixscope/NumberSet" "capacity" "I" (.int (0 : Int32)) := D1 (Or.inr (hw _ (List.mem_of_getElem? (i := 11) rfl))) (ty := .int) (by decide)
    have F1_levels : Fld Z h1 b1 "com/example/prefix_scope/prefixscope/NumberSet" "levels" "[[J" .null := D1 (Or.inr (hw _ (List.mem_of_getElem? (i := 15) rfl))) (ty := (.array (.array .long))) (by decide)
    refine Go.step st1 ?_
    have gb : h0.size ≤ b1 := Nat.le_of_eq g1.symm
    show Go _ _ _ _ (T1.setTop (mkF m 72 #[.val (.int x0), .val (.int x1), .val (.int x2), .val (.int x3), .val (.int x4), .val (.int x5), .val (.int (Int32.ofNat (64 * N))), .val (.int (Int32.ofNat a)), .val (.int (Int32.ofNat bb)), .val (.int (Int32.ofNat c_)), .val (.int (Int32.ofNat d)), .val (.int (Int32.ofNat f)), .unset, .unset, .unset, .unset] [(.ref b1)]))
    refine Go.step (fun _ k => XS.dup X1.here hx rfl (hb hby at_72) rfl rfl k) ?_
    show Go _ _ _ _ (T1.setTop (mkF m 73 #[.val (.int x0), .val (.int x1), .val (.int x2), .val (.int x3), .val (.int x4), .val (.int x5), .val (.int (Int32.ofNat (64 * N))), .val (.int (Int32.ofNat a)), .val (.int (Int32.ofNat bb)), .val (.int (Int32.ofNat c_)), .val (.int (Int32.ofNat d)), .val (.int (Int32.ofNat f)), .unset, .unset, .unset, .unset] [(.ref b1), (.ref b1)]))
    refine Go.step (fun _ k => XS.iload X1.here hx rfl (hb hby at_73) rfl k) ?_
    show Go _ _ _ _ (T1.setTop (mkF m 75 #[.val (.int x0), .val (.int x1), .val (.int x2), .val (.int x3), .val (.int x4), .val (.int x5), .val (.int (Int32.ofNat (64 * N))), .val (.int (Int32.ofNat a)), .val (.int (Int32.ofNat bb)), .val (.int (Int32.ofNat c_)), .val (.int (Int32.ofNat d)), .val (.int (Int32.ofNat f)), .unset, .unset, .unset, .unset] [(.int (Int32.ofNat (64 * N))), (.ref b1), (.ref b1)]))
    refine goI X1 hx hZ rfl hown (hw _ (List.mem_of_getElem? (i := 4) rfl)) (hw _ (List.mem_of_getElem? (i := 5) rfl)) (hw _ (List.mem_of_getElem? (i := 3) rfl)) (hw _ (List.mem_of_getElem? (i := 6) rfl)) (by decide) (rmC l Z a0 hw h1 b1 h0.size N hN1 hN4 E1.1 gb A1 F1_capacity F1_levels) e1 (by rw [hml]; rfl) b1 [(.int (Int32.ofNat (64 * N)))] [(.ref b1)] rfl pd1 rfl rfl 1 rfl (hb hby at_75) (by decide) (by decide) (by decide) (by decide) fun TC LC vC qC XC => ?_
    obtain ⟨rfl, NC, OC⟩ := qC
    show Go _ _ _ _ (TC.setTop (mkF m 78 #[.val (.int x0), .val (.int x1), .val (.int x2), .val (.int x3), .val (.int x4), .val (.int x5), .val (.int (Int32.ofNat (64 * N))), .val (.int (Int32.ofNat a)), .val (.int (Int32.ofNat bb)), .val (.int (Int32.ofNat c_)), .val (.int (Int32.ofNat d)), .val (.int (Int32.ofNat f)), .unset, .unset, .unset, .unset] [(.ref b1)]))
    refine Go.step (fun _ k => XS.astore XC.here hx rfl (hb hby at_78) rfl rfl (l' := #[.val (.int x0), .val (.int x1), .val (.int x2), .val (.int x3), .val (.int x4), .val (.int x5), .val (.int (Int32.ofNat (64 * N))), .val (.int (Int32.ofNat a)), .val (.int (Int32.ofNat bb)), .val (.int (Int32.ofNat c_)), .val (.int (Int32.ofNat d)), .val (.int (Int32.ofNat f)), .val (.ref b1), .unset, .unset, .unset]) rfl k) ?_
    show Go _ _ _ _ (TC.setTop (mkF m 80 #[.val (.int x0), .val (.int x1), .val (.int x2), .val (.int x3), .val (.int x4), .val (.int x5), .val (.int (Int32.ofNat (64 * N))), .val (.int (Int32.ofNat a)), .val (.int (Int32.ofNat bb)), .val (.int (Int32.ofNat c_)), .val (.int (Int32.ofNat d)), .val (.int (Int32.ofNat f)), .val (.ref b1), .unset, .unset, .unset] []))
    refine Go.step (fun _ k => XS.aload XC.here hx rfl (hb hby at_80) rfl rfl k) ?_
    show Go _ _ _ _ (TC.setTop (mkF m 82 #[.val (.int x0), .val (.int x1), .val (.int x2), .val (.int x3), .val (.int x4), .val (.int x5), .val (.int (Int32.ofNat (64 * N))), .val (.int (Int32.ofNat a)), .val (.int (Int32.ofNat bb)), .val (.int (Int32.ofNat c_)), .val (.int (Int32.ofNat d)), .val (.int (Int32.ofNat f)), .val (.ref b1), .unset, .unset, .unset] [(.ref b1)]))
    refine Go.step (fun _ k => XS.iload XC.here hx rfl (hb hby at_82) rfl k) ?_
    show Go _ _ _ _ (TC.setTop (mkF m 84 #[.val (.int x0), .val (.int x1), .val (.int x2), .val (.int x3), .val (.int x4), .val (.int x5), .val (.int (Int32.ofNat (64 * N))), .val (.int (Int32.ofNat a)), .val (.int (Int32.ofNat bb)), .val (.int (Int32.ofNat c_)), .val (.int (Int32.ofNat d)), .val (.int (Int32.ofNat f)), .val (.ref b1), .unset, .unset, .unset] [(.int (Int32.ofNat a)), (.ref b1)]))
    refine goV XC hx hZ hown (hw _ (List.mem_of_getElem? (i := 27) rfl)) (hw _ (List.mem_of_getElem? (i := 28) rfl)) (notFace_of_selects (args := #[]) (mvT hZ (hw _ (List.mem_of_getElem? (i := 30) rfl)))) (hw _ (List.mem_of_getElem? (i := 30) rfl)) (hw _ (List.mem_of_getElem? (i := 29) rfl)) (hw _ (List.mem_of_getElem? (i := 3) rfl)) (hw _ (List.mem_of_getElem? (i := 31) rfl)) (by decide) (rmD l Z a0 hw [] TC.heap b1 h0.size N a (fun _ => false) hN4 ha (own_room (fun y => (fun _ => false) y || decide (y = a)) a a (fun y q => by simp at q; omega) (a / 64)) OC) rfl (OC).choose_spec.choose_spec.choose_spec.1 (by rw [hml]; rfl) [(.int (Int32.ofNat a))] [] rfl pd5 rfl rfl 0 rfl (hb hby at_84) (by decide) (by decide) (by decide) (by decide) fun T2 L2 v2 q2 X2 => ?_
    obtain ⟨rfl, N2, O2⟩ := q2
    show Go _ _ _ _ (T2.setTop (mkF m 87 #[.val (.int x0), .val (.int x1), .val (.int x2), .val (.int x3), .val (.int x4), .val (.int x5), .val (.int (Int32.ofNat (64 * N))), .val (.int (Int32.ofNat a)), .val (.int (Int32.ofNat bb)), .val (.int (Int32.ofNat c_)), .val (.int (Int32.ofNat d)), .val (.int (Int32.ofNat f)), .val (.ref b1), .unset, .unset, .unset] []))
    refine Go.step (fun _ k => XS.aload X2.here hx rfl (hb hby at_87) rfl rfl k) ?_
    show Go _ _ _ _ (T2.setTop (mkF m 89 #[.val (.int x0), .val (.int x1), .val (.int x2), .val (.int x3), .val (.int x4), .val (.int x5), .val (.int (Int32.ofNat (64 * N))), .val (.int (Int32.ofNat a)), .val (.int (Int32.ofNat bb)), .val (.int (Int32.ofNat c_)), .val (.int (Int32.ofNat d)), .val (.int (Int32.ofNat f)), .val (.ref b1), .unset, .unset, .unset] [(.ref b1)]))
    refine Go.step (fun _ k => XS.iload X2.here hx rfl (hb hby at_89) rfl k) ?_
    show Go _ _ _ _ (T2.setTop (mkF m 91 #[.val (.int x0), .val (.int x1), .val (.int x2), .val (.int x3), .val (.int x4), .val (.int x5), .val (.int (Int32.ofNat (64 * N))), .val (.int (Int32.ofNat a)), .val (.int (Int32.ofNat bb)), .val (.int (Int32.ofNat c_)), .val (.int (Int32.ofNat d)), .val (.int (Int32.ofNat f)), .val (.ref b1), .unset, .unset, .unset] [(.int (Int32.ofNat c_)), (.ref b1)]))
    refine goV X2 hx hZ hown (hw _ (List.mem_of_getElem? (i := 37) rfl)) (hw _ (List.mem_of_getElem? (i := 38) rfl)) (notFace_of_selects (args := #[]) (mvT hZ (hw _ (List.mem_of_getElem? (i := 40) rfl)))) (hw _ (List.mem_of_getElem? (i := 40) rfl)) (hw _ (List.mem_of_getElem? (i := 39) rfl)) (hw _ (List.mem_of_getElem? (i := 3) rfl)) (hw _ (List.mem_of_getElem? (i := 41) rfl)) (by decide) (rmR l Z a0 hw T2.heap b1 h0.size N c_ (fun y => (fun _ => false) y || decide (y = a)) hN4 hc_ (own_room (fun y => (fun _ => false) y || decide (y = a)) a a (fun y q => by simp at q; omega) (c_ / 64)) O2) rfl (O2).choose_spec.choose_spec.choose_spec.1 (by rw [hml]; rfl) [(.int (Int32.ofNat c_))] [] rfl pd7 rfl rfl 0 rfl (hb hby at_91) (by decide) (by decide) (by decide) (by decide) fun T3 L3 v3 q3 X3 => ?_
    obtain ⟨rfl, N3, O3⟩ := q3
    show Go _ _ _ _ (T3.setTop (mkF m 94 #[.val (.int x0), .val (.int x1), .val (.int x2), .val (.int x3), .val (.int x4), .val (.int x5), .val (.int (Int32.ofNat (64 * N))), .val (.int (Int32.ofNat a)), .val (.int (Int32.ofNat bb)), .val (.int (Int32.ofNat c_)), .val (.int (Int32.ofNat d)), .val (.int (Int32.ofNat f)), .val (.ref b1), .unset, .unset, .unset] []))
    refine Go.step (fun _ k => XS.aload X3.here hx rfl (hb hby at_94) rfl rfl k) ?_
    show Go _ _ _ _ (T3.setTop (mkF m 96 #[.val (.int x0), .val (.int x1), .val (.int x2), .val (.int x3), .val (.int x4), .val (.int x5), .val (.int (Int32.ofNat (64 * N))), .val (.int (Int32.ofNat a)), .val (.int (Int32.ofNat bb)), .val (.int (Int32.ofNat c_)), .val (.int (Int32.ofNat d)), .val (.int (Int32.ofNat f)), .val (.ref b1), .unset, .unset, .unset] [(.ref b1)]))
    refine Go.step (fun _ k => XS.iload X3.here hx rfl (hb hby at_96) rfl k) ?_
    show Go _ _ _ _ (T3.setTop (mkF m 98 #[.val (.int x0), .val (.int x1), .val (.int x2), .val (.int x3), .val (.int x4), .val (.int x5), .val (.int (Int32.ofNat (64 * N))), .val (.int (Int32.ofNat a)), .val (.int (Int32.ofNat bb)), .val (.int (Int32.ofNat c_)), .val (.int (Int32.ofNat d)), .val (.int (Int32.ofNat f)), .val (.ref b1), .unset, .unset, .unset] [(.int (Int32.ofNat bb)), (.ref b1)]))
    refine goV X3 hx hZ hown (hw _ (List.mem_of_getElem? (i := 27) rfl)) (hw _ (List.mem_of_getElem? (i := 28) rfl)) (notFace_of_selects (args := #[]) (mvT hZ (hw _ (List.mem_of_getElem? (i := 30) rfl)))) (hw _ (List.mem_of_getElem? (i := 30) rfl)) (hw _ (List.mem_of_getElem? (i := 29) rfl)) (hw _ (List.mem_of_getElem? (i := 3) rfl)) (hw _ (List.mem_of_getElem? (i := 31) rfl)) (by decide) (rmD l Z a0 hw [] T3.heap b1 h0.size N bb (fun y => (fun y => (fun _ => false) y || decide (y = a)) y && !decide (y = c_)) hN4 hbb (own_room (fun y => (fun y => (fun y => (fun _ => false) y || decide (y = a)) y && !decide (y = c_)) y || decide (y = bb)) a bb (fun y q => by simp at q; omega) (bb / 64)) O3) rfl (O3).choose_spec.choose_spec.choose_spec.1 (by rw [hml]; rfl) [(.int (Int32.ofNat bb))] [] rfl pd5 rfl rfl 0 rfl (hb hby at_98) (by decide) (by decide) (by decide) (by decide) fun T4 L4 v4 q4 X4 => ?_
    obtain ⟨rfl, N4, O4⟩ := q4
    show Go _ _ _ _ (T4.setTop (mkF m 101 #[.val (.int x0), .val (.int x1), .val (.int x2), .val (.int x3), .val (.int x4), .val (.int x5), .val (.int (Int32.ofNat (64 * N))), .val (.int (Int32.ofNat a)), .val (.int (Int32.ofNat bb)), .val (.int (Int32.ofNat c_)), .val (.int (Int32.ofNat d)), .val (.int (Int32.ofNat f)), .val (.ref b1), .unset, .unset, .unset] []))
    refine Go.step (fun _ k => XS.aload X4.here hx rfl (hb hby at_101) rfl rfl k) ?_
    show Go _ _ _ _ (T4.setTop (mkF m 103 #[.val (.int x0), .val (.int x1), .val (.int x2), .val (.int x3), .val (.int x4), .val (.int x5), .val (.int (Int32.ofNat (64 * N))), .val (.int (Int32.ofNat a)), .val (.int (Int32.ofNat bb)), .val (.int (Int32.ofNat c_)), .val (.int (Int32.ofNat d)), .val (.int (Int32.ofNat f)), .val (.ref b1), .unset, .unset, .unset] [(.ref b1)]))
    refine Go.step (fun _ k => XS.iload X4.here hx rfl (hb hby at_103) rfl k) ?_
    show Go _ _ _ _ (T4.setTop (mkF m 105 #[.val (.int x0), .val (.int x1), .val (.int x2), .val (.int x3), .val (.int x4), .val (.int x5), .val (.int (Int32.ofNat (64 * N))), .val (.int (Int32.ofNat a)), .val (.int (Int32.ofNat bb)), .val (.int (Int32.ofNat c_)), .val (.int (Int32.ofNat d)), .val (.int (Int32.ofNat f)), .val (.ref b1), .unset, .unset, .unset] [(.int (Int32.ofNat d)), (.ref b1)]))
    refine goV X4 hx hZ hown (hw _ (List.mem_of_getElem? (i := 37) rfl)) (hw _ (List.mem_of_getElem? (i := 38) rfl)) (notFace_of_selects (args := #[]) (mvT hZ (hw _ (List.mem_of_getElem? (i := 40) rfl)))) (hw _ (List.mem_of_getElem? (i := 40) rfl)) (hw _ (List.mem_of_getElem? (i := 39) rfl)) (hw _ (List.mem_of_getElem? (i := 3) rfl)) (hw _ (List.mem_of_getElem? (i := 41) rfl)) (by decide) (rmR l Z a0 hw T4.heap b1 h0.size N d (fun y => (fun y => (fun y => (fun _ => false) y || decide (y = a)) y && !decide (y = c_)) y || decide (y = bb)) hN4 hd (own_room (fun y => (fun y => (fun y => (fun _ => false) y || decide (y = a)) y && !decide (y = c_)) y || decide (y = bb)) a bb (fun y q => by simp at q; omega) (d / 64)) O4) rfl (O4).choose_spec.choose_spec.choose_spec.1 (by rw [hml]; rfl) [(.int (Int32.ofNat d))] [] rfl pd7 rfl rfl 0 rfl (hb hby at_105) (by decide) (by decide) (by decide) (by decide) fun T5 L5 v5 q5 X5 => ?_
    obtain ⟨rfl, N5, O5⟩ := q5
    have OG : Obj Z T5.heap b1 N (own_g a bb c_ d) h0.size := O5
    have RG : ∀ w, w < N → ∃ j, j < 64 ∧ own_g a bb c_ d (64 * w + j) = false := fun w _ => own_room _ a bb (own_gin a bb c_ d) w
    show Go _ _ _ _ (T5.setTop (mkF m 108 #[.val (.int x0), .val (.int x1), .val (.int x2), .val (.int x3), .val (.int x4), .val (.int x5), .val (.int (Int32.ofNat (64 * N))), .val (.int (Int32.ofNat a)), .val (.int (Int32.ofNat bb)), .val (.int (Int32.ofNat c_)), .val (.int (Int32.ofNat d)), .val (.int (Int32.ofNat f)), .val (.ref b1), .unset, .unset, .unset] []))
    refine Go.step (fun _ k => XS.aload X5.here hx rfl (hb hby at_108) rfl rfl k) ?_
    show Go _ _ _ _ (T5.setTop (mkF m 110 #[.val (.int x0), .val (.int x1), .val (.int x2), .val (.int x3), .val (.int x4), .val (.int x5), .val (.int (Int32.ofNat (64 * N))), .val (.int (Int32.ofNat a)), .val (.int (Int32.ofNat bb)), .val (.int (Int32.ofNat c_)), .val (.int (Int32.ofNat d)), .val (.int (Int32.ofNat f)), .val (.ref b1), .unset, .unset, .unset] [(.ref b1)]))
    refine Go.step (fun _ k => XS.iload X5.here hx rfl (hb hby at_110) rfl k) ?_
    show Go _ _ _ _ (T5.setTop (mkF m 112 #[.val (.int x0), .val (.int x1), .val (.int x2), .val (.int x3), .val (.int x4), .val (.int x5), .val (.int (Int32.ofNat (64 * N))), .val (.int (Int32.ofNat a)), .val (.int (Int32.ofNat bb)), .val (.int (Int32.ofNat c_)), .val (.int (Int32.ofNat d)), .val (.int (Int32.ofNat f)), .val (.ref b1), .unset, .unset, .unset] [(.int (Int32.ofNat f)), (.ref b1)]))
    refine goV X5 hx hZ hown (hw _ (List.mem_of_getElem? (i := 42) rfl)) (hw _ (List.mem_of_getElem? (i := 43) rfl)) (notFace_of_selects (args := #[]) (mvT hZ (hw _ (List.mem_of_getElem? (i := 45) rfl)))) (hw _ (List.mem_of_getElem? (i := 45) rfl)) (hw _ (List.mem_of_getElem? (i := 44) rfl)) (hw _ (List.mem_of_getElem? (i := 3) rfl)) (hw _ (List.mem_of_getElem? (i := 46) rfl)) (by decide) (rmF l Z a0 hw _ b1 h0.size N f (own_g a bb c_ d) hN4 (by omega) RG OG) rfl (OG).choose_spec.choose_spec.choose_spec.1 (by rw [hml]; rfl) [(.int (Int32.ofNat f))] [] rfl pd8 rfl rfl 0 rfl (hb hby at_112) (by decide) (by decide) (by decide) (by decide) fun T6 L6 v6 q6 X6 => ?_
    obtain ⟨⟨r1, rfl, Fr1⟩, e6, rfl⟩ := q6
    rw [List.append_nil] at X6
    show Go _ _ _ _ (T6.setTop (mkF m 115 #[.val (.int x0), .val (.int x1), .val (.int x2), .val (.int x3), .val (.int x4), .val (.int x5), .val (.int (Int32.ofNat (64 * N))), .val (.int (Int32.ofNat a)), .val (.int (Int32.ofNat bb)), .val (.int (Int32.ofNat c_)), .val (.int (Int32.ofNat d)), .val (.int (Int32.ofNat f)), .val (.ref b1), .unset, .unset, .unset] [(.int (Int32.ofNat r1))]))
    refine Go.step (fun _ k => XS.istore X6.here hx rfl (hb hby at_115) rfl (l' := #[.val (.int x0), .val (.int x1), .val (.int x2), .val (.int x3), .val (.int x4), .val (.int x5), .val (.int (Int32.ofNat (64 * N))), .val (.int (Int32.ofNat a)), .val (.int (Int32.ofNat bb)), .val (.int (Int32.ofNat c_)), .val (.int (Int32.ofNat d)), .val (.int (Int32.ofNat f)), .val (.ref b1), .val (.int (Int32.ofNat r1)), .unset, .unset]) rfl k) ?_
    show Go _ _ _ _ (T6.setTop (mkF m 117 #[.val (.int x0), .val (.int x1), .val (.int x2), .val (.int x3), .val (.int x4), .val (.int x5), .val (.int (Int32.ofNat (64 * N))), .val (.int (Int32.ofNat a)), .val (.int (Int32.ofNat bb)), .val (.int (Int32.ofNat c_)), .val (.int (Int32.ofNat d)), .val (.int (Int32.ofNat f)), .val (.ref b1), .val (.int (Int32.ofNat r1)), .unset, .unset] []))
    refine Go.step (fun _ k => XS.aload X6.here hx rfl (hb hby at_117) rfl rfl k) ?_
    show Go _ _ _ _ (T6.setTop (mkF m 119 #[.val (.int x0), .val (.int x1), .val (.int x2), .val (.int x3), .val (.int x4), .val (.int x5), .val (.int (Int32.ofNat (64 * N))), .val (.int (Int32.ofNat a)), .val (.int (Int32.ofNat bb)), .val (.int (Int32.ofNat c_)), .val (.int (Int32.ofNat d)), .val (.int (Int32.ofNat f)), .val (.ref b1), .val (.int (Int32.ofNat r1)), .unset, .unset] [(.ref b1)]))
    refine Go.step (fun _ k => XS.iload X6.here hx rfl (hb hby at_119) rfl k) ?_
    show Go _ _ _ _ (T6.setTop (mkF m 121 #[.val (.int x0), .val (.int x1), .val (.int x2), .val (.int x3), .val (.int x4), .val (.int x5), .val (.int (Int32.ofNat (64 * N))), .val (.int (Int32.ofNat a)), .val (.int (Int32.ofNat bb)), .val (.int (Int32.ofNat c_)), .val (.int (Int32.ofNat d)), .val (.int (Int32.ofNat f)), .val (.ref b1), .val (.int (Int32.ofNat r1)), .unset, .unset] [(.int (Int32.ofNat c_)), (.ref b1)]))
    refine goV X6 hx hZ hown (hw _ (List.mem_of_getElem? (i := 42) rfl)) (hw _ (List.mem_of_getElem? (i := 43) rfl)) (notFace_of_selects (args := #[]) (mvT hZ (hw _ (List.mem_of_getElem? (i := 45) rfl)))) (hw _ (List.mem_of_getElem? (i := 45) rfl)) (hw _ (List.mem_of_getElem? (i := 44) rfl)) (hw _ (List.mem_of_getElem? (i := 3) rfl)) (hw _ (List.mem_of_getElem? (i := 46) rfl)) (by decide) (rmF l Z a0 hw _ b1 h0.size N c_ (own_g a bb c_ d) hN4 (by omega) RG OG) e6 (OG).choose_spec.choose_spec.choose_spec.1 (by rw [hml]; rfl) [(.int (Int32.ofNat c_))] [] rfl pd8 rfl rfl 0 rfl (hb hby at_121) (by decide) (by decide) (by decide) (by decide) fun T7 L7 v7 q7 X7 => ?_
    obtain ⟨⟨r2, rfl, Fr2⟩, e7, rfl⟩ := q7
    rw [List.append_nil] at X7
    show Go _ _ _ _ (T7.setTop (mkF m 124 #[.val (.int x0), .val (.int x1), .val (.int x2), .val (.int x3), .val (.int x4), .val (.int x5), .val (.int (Int32.ofNat (64 * N))), .val (.int (Int32.ofNat a)), .val (.int (Int32.ofNat bb)), .val (.int (Int32.ofNat c_)), .val (.int (Int32.ofNat d)), .val (.int (Int32.ofNat f)), .val (.ref b1), .val (.int (Int32.ofNat r1)), .unset, .unset] [(.int (Int32.ofNat r2))]))
    refine Go.step (fun _ k => XS.istore X7.here hx rfl (hb hby at_124) rfl (l' := #[.val (.int x0), .val (.int x1), .val (.int x2), .val (.int x3), .val (.int x4), .val (.int x5), .val (.int (Int32.ofNat (64 * N))), .val (.int (Int32.ofNat a)), .val (.int (Int32.ofNat bb)), .val (.int (Int32.ofNat c_)), .val (.int (Int32.ofNat d)), .val (.int (Int32.ofNat f)), .val (.ref b1), .val (.int (Int32.ofNat r1)), .val (.int (Int32.ofNat r2)), .unset]) rfl k) ?_
    show Go _ _ _ _ (T7.setTop (mkF m 126 #[.val (.int x0), .val (.int x1), .val (.int x2), .val (.int x3), .val (.int x4), .val (.int x5), .val (.int (Int32.ofNat (64 * N))), .val (.int (Int32.ofNat a)), .val (.int (Int32.ofNat bb)), .val (.int (Int32.ofNat c_)), .val (.int (Int32.ofNat d)), .val (.int (Int32.ofNat f)), .val (.ref b1), .val (.int (Int32.ofNat r1)), .val (.int (Int32.ofNat r2)), .unset] []))
    refine Go.step (fun _ k => XS.aload X7.here hx rfl (hb hby at_126) rfl rfl k) ?_
    show Go _ _ _ _ (T7.setTop (mkF m 128 #[.val (.int x0), .val (.int x1), .val (.int x2), .val (.int x3), .val (.int x4), .val (.int x5), .val (.int (Int32.ofNat (64 * N))), .val (.int (Int32.ofNat a)), .val (.int (Int32.ofNat bb)), .val (.int (Int32.ofNat c_)), .val (.int (Int32.ofNat d)), .val (.int (Int32.ofNat f)), .val (.ref b1), .val (.int (Int32.ofNat r1)), .val (.int (Int32.ofNat r2)), .unset] [(.ref b1)]))
    refine Go.step (fun _ k => XS.iload X7.here hx rfl (hb hby at_128) rfl k) ?_
    show Go _ _ _ _ (T7.setTop (mkF m 130 #[.val (.int x0), .val (.int x1), .val (.int x2), .val (.int x3), .val (.int x4), .val (.int x5), .val (.int (Int32.ofNat (64 * N))), .val (.int (Int32.ofNat a)), .val (.int (Int32.ofNat bb)), .val (.int (Int32.ofNat c_)), .val (.int (Int32.ofNat d)), .val (.int (Int32.ofNat f)), .val (.ref b1), .val (.int (Int32.ofNat r1)), .val (.int (Int32.ofNat r2)), .unset] [(.int (Int32.ofNat d)), (.ref b1)]))
    refine goV X7 hx hZ hown (hw _ (List.mem_of_getElem? (i := 42) rfl)) (hw _ (List.mem_of_getElem? (i := 43) rfl)) (notFace_of_selects (args := #[]) (mvT hZ (hw _ (List.mem_of_getElem? (i := 45) rfl)))) (hw _ (List.mem_of_getElem? (i := 45) rfl)) (hw _ (List.mem_of_getElem? (i := 44) rfl)) (hw _ (List.mem_of_getElem? (i := 3) rfl)) (hw _ (List.mem_of_getElem? (i := 46) rfl)) (by decide) (rmF l Z a0 hw _ b1 h0.size N d (own_g a bb c_ d) hN4 (by omega) RG OG) e7 (OG).choose_spec.choose_spec.choose_spec.1 (by rw [hml]; rfl) [(.int (Int32.ofNat d))] [] rfl pd8 rfl rfl 0 rfl (hb hby at_130) (by decide) (by decide) (by decide) (by decide) fun T8 L8 v8 q8 X8 => ?_
    obtain ⟨⟨r3, rfl, Fr3⟩, e8, rfl⟩ := q8
    rw [List.append_nil] at X8
    show Go _ _ _ _ (T8.setTop (mkF m 133 #[.val (.int x0), .val (.int x1), .val (.int x2), .val (.int x3), .val (.int x4), .val (.int x5), .val (.int (Int32.ofNat (64 * N))), .val (.int (Int32.ofNat a)), .val (.int (Int32.ofNat bb)), .val (.int (Int32.ofNat c_)), .val (.int (Int32.ofNat d)), .val (.int (Int32.ofNat f)), .val (.ref b1), .val (.int (Int32.ofNat r1)), .val (.int (Int32.ofNat r2)), .unset] [(.int (Int32.ofNat r3))]))
    refine Go.step (fun _ k => XS.istore X8.here hx rfl (hb hby at_133) rfl (l' := #[.val (.int x0), .val (.int x1), .val (.int x2), .val (.int x3), .val (.int x4), .val (.int x5), .val (.int (Int32.ofNat (64 * N))), .val (.int (Int32.ofNat a)), .val (.int (Int32.ofNat bb)), .val (.int (Int32.ofNat c_)), .val (.int (Int32.ofNat d)), .val (.int (Int32.ofNat f)), .val (.ref b1), .val (.int (Int32.ofNat r1)), .val (.int (Int32.ofNat r2)), .val (.int (Int32.ofNat r3))]) rfl k) ?_
    show Go _ _ _ _ (T8.setTop (mkF m 135 #[.val (.int x0), .val (.int x1), .val (.int x2), .val (.int x3), .val (.int x4), .val (.int x5), .val (.int (Int32.ofNat (64 * N))), .val (.int (Int32.ofNat a)), .val (.int (Int32.ofNat bb)), .val (.int (Int32.ofNat c_)), .val (.int (Int32.ofNat d)), .val (.int (Int32.ofNat f)), .val (.ref b1), .val (.int (Int32.ofNat r1)), .val (.int (Int32.ofNat r2)), .val (.int (Int32.ofNat r3))] []))
    refine Go.step (fun _ k => XS.iload X8.here hx rfl (hb hby at_135) rfl k) ?_
    show Go _ _ _ _ (T8.setTop (mkF m 137 #[.val (.int x0), .val (.int x1), .val (.int x2), .val (.int x3), .val (.int x4), .val (.int x5), .val (.int (Int32.ofNat (64 * N))), .val (.int (Int32.ofNat a)), .val (.int (Int32.ofNat bb)), .val (.int (Int32.ofNat c_)), .val (.int (Int32.ofNat d)), .val (.int (Int32.ofNat f)), .val (.ref b1), .val (.int (Int32.ofNat r1)), .val (.int (Int32.ofNat r2)), .val (.int (Int32.ofNat r3))] [(.int (Int32.ofNat r1))]))
    refine Go.step (fun _ k => XS.iload X8.here hx rfl (hb hby at_137) rfl k) ?_
    show Go _ _ _ _ (T8.setTop (mkF m 139 #[.val (.int x0), .val (.int x1), .val (.int x2), .val (.int x3), .val (.int x4), .val (.int x5), .val (.int (Int32.ofNat (64 * N))), .val (.int (Int32.ofNat a)), .val (.int (Int32.ofNat bb)), .val (.int (Int32.ofNat c_)), .val (.int (Int32.ofNat d)), .val (.int (Int32.ofNat f)), .val (.ref b1), .val (.int (Int32.ofNat r1)), .val (.int (Int32.ofNat r2)), .val (.int (Int32.ofNat r3))] [(.int (Int32.ofNat f)), (.int (Int32.ofNat r1))]))
    refine Go.step (fun _ k => XS.iload X8.here hx rfl (hb hby at_139) rfl k) ?_
    show Go _ _ _ _ (T8.setTop (mkF m 141 #[.val (.int x0), .val (.int x1), .val (.int x2), .val (.int x3), .val (.int x4), .val (.int x5), .val (.int (Int32.ofNat (64 * N))), .val (.int (Int32.ofNat a)), .val (.int (Int32.ofNat bb)), .val (.int (Int32.ofNat c_)), .val (.int (Int32.ofNat d)), .val (.int (Int32.ofNat f)), .val (.ref b1), .val (.int (Int32.ofNat r1)), .val (.int (Int32.ofNat r2)), .val (.int (Int32.ofNat r3))] [(.int (Int32.ofNat a)), (.int (Int32.ofNat f)), (.int (Int32.ofNat r1))]))
    refine Go.step (fun _ k => XS.iload X8.here hx rfl (hb hby at_141) rfl k) ?_
    show Go _ _ _ _ (T8.setTop (mkF m 143 #[.val (.int x0), .val (.int x1), .val (.int x2), .val (.int x3), .val (.int x4), .val (.int x5), .val (.int (Int32.ofNat (64 * N))), .val (.int (Int32.ofNat a)), .val (.int (Int32.ofNat bb)), .val (.int (Int32.ofNat c_)), .val (.int (Int32.ofNat d)), .val (.int (Int32.ofNat f)), .val (.ref b1), .val (.int (Int32.ofNat r1)), .val (.int (Int32.ofNat r2)), .val (.int (Int32.ofNat r3))] [(.int (Int32.ofNat bb)), (.int (Int32.ofNat a)), (.int (Int32.ofNat f)), (.int (Int32.ofNat r1))]))
    refine Go.step (fun _ k => XS.iload X8.here hx rfl (hb hby at_143) rfl k) ?_
    show Go _ _ _ _ (T8.setTop (mkF m 145 #[.val (.int x0), .val (.int x1), .val (.int x2), .val (.int x3), .val (.int x4), .val (.int x5), .val (.int (Int32.ofNat (64 * N))), .val (.int (Int32.ofNat a)), .val (.int (Int32.ofNat bb)), .val (.int (Int32.ofNat c_)), .val (.int (Int32.ofNat d)), .val (.int (Int32.ofNat f)), .val (.ref b1), .val (.int (Int32.ofNat r1)), .val (.int (Int32.ofNat r2)), .val (.int (Int32.ofNat r3))] [(.int (Int32.ofNat c_)), (.int (Int32.ofNat bb)), (.int (Int32.ofNat a)), (.int (Int32.ofNat f)), (.int (Int32.ofNat r1))]))
    refine Go.step (fun _ k => XS.iload X8.here hx rfl (hb hby at_145) rfl k) ?_
    show Go _ _ _ _ (T8.setTop (mkF m 147 #[.val (.int x0), .val (.int x1), .val (.int x2), .val (.int x3), .val (.int x4), .val (.int x5), .val (.int (Int32.ofNat (64 * N))), .val (.int (Int32.ofNat a)), .val (.int (Int32.ofNat bb)), .val (.int (Int32.ofNat c_)), .val (.int (Int32.ofNat d)), .val (.int (Int32.ofNat f)), .val (.ref b1), .val (.int (Int32.ofNat r1)), .val (.int (Int32.ofNat r2)), .val (.int (Int32.ofNat r3))] [(.int (Int32.ofNat d)), (.int (Int32.ofNat c_)), (.int (Int32.ofNat bb)), (.int (Int32.ofNat a)), (.int (Int32.ofNat f)), (.int (Int32.ofNat r1))]))
    refine Go.step (fun _ k => XS.iload X8.here hx rfl (hb hby at_147) rfl k) ?_
    show Go _ _ _ _ (T8.setTop (mkF m 149 #[.val (.int x0), .val (.int x1), .val (.int x2), .val (.int x3), .val (.int x4), .val (.int x5), .val (.int (Int32.ofNat (64 * N))), .val (.int (Int32.ofNat a)), .val (.int (Int32.ofNat bb)), .val (.int (Int32.ofNat c_)), .val (.int (Int32.ofNat d)), .val (.int (Int32.ofNat f)), .val (.ref b1), .val (.int (Int32.ofNat r1)), .val (.int (Int32.ofNat r2)), .val (.int (Int32.ofNat r3))] [(.int (Int32.ofNat (64 * N))), (.int (Int32.ofNat d)), (.int (Int32.ofNat c_)), (.int (Int32.ofNat bb)), (.int (Int32.ofNat a)), (.int (Int32.ofNat f)), (.int (Int32.ofNat r1))]))
    refine goS X8 hx hZ hown (hw _ (List.mem_of_getElem? (i := 56) rfl)) (hw _ (List.mem_of_getElem? (i := 57) rfl)) (hw _ (List.mem_of_getElem? (i := 58) rfl)) (hw _ (List.mem_of_getElem? (i := 59) rfl)) (by decide) (rm11 l Z a0 hw [] (Int32.ofNat f) (Int32.ofNat a) (Int32.ofNat bb) (Int32.ofNat c_) (Int32.ofNat d) (Int32.ofNat (64 * N)) _) e8 (by rw [hml]; rfl) [(.int (Int32.ofNat f)), (.int (Int32.ofNat a)), (.int (Int32.ofNat bb)), (.int (Int32.ofNat c_)), (.int (Int32.ofNat d)), (.int (Int32.ofNat (64 * N)))] [(.int (Int32.ofNat r1))] rfl pd11 rfl rfl 1 rfl (hb hby at_149) (by decide) (by decide) (by decide) (by decide) fun T9 L9 v9 q9 X9 => ?_
    obtain ⟨rfl, e9, rfl⟩ := q9
    rw [List.append_nil] at X9
    show Go _ _ _ _ (T9.setTop (mkF m 152 #[.val (.int x0), .val (.int x1), .val (.int x2), .val (.int x3), .val (.int x4), .val (.int x5), .val (.int (Int32.ofNat (64 * N))), .val (.int (Int32.ofNat a)), .val (.int (Int32.ofNat bb)), .val (.int (Int32.ofNat c_)), .val (.int (Int32.ofNat d)), .val (.int (Int32.ofNat f)), .val (.ref b1), .val (.int (Int32.ofNat r1)), .val (.int (Int32.ofNat r2)), .val (.int (Int32.ofNat r3))] [(.int (own_ref (Int32.ofNat f) (Int32.ofNat a) (Int32.ofNat bb) (Int32.ofNat c_) (Int32.ofNat d) (Int32.ofNat (64 * N)))), (.int (Int32.ofNat r1))]))
    refine Go.step (fun _ k => XS.icmpNo X9.here hx rfl (hb hby at_152) rfl (teq (own_final hN4 ha hbb hc_ hd (by omega) Fr1)).2 k) ?_
    show Go _ _ _ _ (T9.setTop (mkF m 155 #[.val (.int x0), .val (.int x1), .val (.int x2), .val (.int x3), .val (.int x4), .val (.int x5), .val (.int (Int32.ofNat (64 * N))), .val (.int (Int32.ofNat a)), .val (.int (Int32.ofNat bb)), .val (.int (Int32.ofNat c_)), .val (.int (Int32.ofNat d)), .val (.int (Int32.ofNat f)), .val (.ref b1), .val (.int (Int32.ofNat r1)), .val (.int (Int32.ofNat r2)), .val (.int (Int32.ofNat r3))] []))
    refine Go.step (fun _ k => XS.iload X9.here hx rfl (hb hby at_155) rfl k) ?_
    show Go _ _ _ _ (T9.setTop (mkF m 157 #[.val (.int x0), .val (.int x1), .val (.int x2), .val (.int x3), .val (.int x4), .val (.int x5), .val (.int (Int32.ofNat (64 * N))), .val (.int (Int32.ofNat a)), .val (.int (Int32.ofNat bb)), .val (.int (Int32.ofNat c_)), .val (.int (Int32.ofNat d)), .val (.int (Int32.ofNat f)), .val (.ref b1), .val (.int (Int32.ofNat r1)), .val (.int (Int32.ofNat r2)), .val (.int (Int32.ofNat r3))] [(.int (Int32.ofNat r2))]))
    refine Go.step (fun _ k => XS.iload X9.here hx rfl (hb hby at_157) rfl k) ?_
    show Go _ _ _ _ (T9.setTop (mkF m 159 #[.val (.int x0), .val (.int x1), .val (.int x2), .val (.int x3), .val (.int x4), .val (.int x5), .val (.int (Int32.ofNat (64 * N))), .val (.int (Int32.ofNat a)), .val (.int (Int32.ofNat bb)), .val (.int (Int32.ofNat c_)), .val (.int (Int32.ofNat d)), .val (.int (Int32.ofNat f)), .val (.ref b1), .val (.int (Int32.ofNat r1)), .val (.int (Int32.ofNat r2)), .val (.int (Int32.ofNat r3))] [(.int (Int32.ofNat c_)), (.int (Int32.ofNat r2))]))
    refine Go.step (fun _ k => XS.iload X9.here hx rfl (hb hby at_159) rfl k) ?_
    show Go _ _ _ _ (T9.setTop (mkF m 161 #[.val (.int x0), .val (.int x1), .val (.int x2), .val (.int x3), .val (.int x4), .val (.int x5), .val (.int (Int32.ofNat (64 * N))), .val (.int (Int32.ofNat a)), .val (.int (Int32.ofNat bb)), .val (.int (Int32.ofNat c_)), .val (.int (Int32.ofNat d)), .val (.int (Int32.ofNat f)), .val (.ref b1), .val (.int (Int32.ofNat r1)), .val (.int (Int32.ofNat r2)), .val (.int (Int32.ofNat r3))] [(.int (Int32.ofNat a)), (.int (Int32.ofNat c_)), (.int (Int32.ofNat r2))]))
    refine Go.step (fun _ k => XS.iload X9.here hx rfl (hb hby at_161) rfl k) ?_
    show Go _ _ _ _ (T9.setTop (mkF m 163 #[.val (.int x0), .val (.int x1), .val (.int x2), .val (.int x3), .val (.int x4), .val (.int x5), .val (.int (Int32.ofNat (64 * N))), .val (.int (Int32.ofNat a)), .val (.int (Int32.ofNat bb)), .val (.int (Int32.ofNat c_)), .val (.int (Int32.ofNat d)), .val (.int (Int32.ofNat f)), .val (.ref b1), .val (.int (Int32.ofNat r1)), .val (.int (Int32.ofNat r2)), .val (.int (Int32.ofNat r3))] [(.int (Int32.ofNat bb)), (.int (Int32.ofNat a)), (.int (Int32.ofNat c_)), (.int (Int32.ofNat r2))]))
    refine Go.step (fun _ k => XS.iload X9.here hx rfl (hb hby at_163) rfl k) ?_
    show Go _ _ _ _ (T9.setTop (mkF m 165 #[.val (.int x0), .val (.int x1), .val (.int x2), .val (.int x3), .val (.int x4), .val (.int x5), .val (.int (Int32.ofNat (64 * N))), .val (.int (Int32.ofNat a)), .val (.int (Int32.ofNat bb)), .val (.int (Int32.ofNat c_)), .val (.int (Int32.ofNat d)), .val (.int (Int32.ofNat f)), .val (.ref b1), .val (.int (Int32.ofNat r1)), .val (.int (Int32.ofNat r2)), .val (.int (Int32.ofNat r3))] [(.int (Int32.ofNat c_)), (.int (Int32.ofNat bb)), (.int (Int32.ofNat a)), (.int (Int32.ofNat c_)), (.int (Int32.ofNat r2))]))
    refine Go.step (fun _ k => XS.iload X9.here hx rfl (hb hby at_165) rfl k) ?_
    show Go _ _ _ _ (T9.setTop (mkF m 167 #[.val (.int x0), .val (.int x1), .val (.int x2), .val (.int x3), .val (.int x4), .val (.int x5), .val (.int (Int32.ofNat (64 * N))), .val (.int (Int32.ofNat a)), .val (.int (Int32.ofNat bb)), .val (.int (Int32.ofNat c_)), .val (.int (Int32.ofNat d)), .val (.int (Int32.ofNat f)), .val (.ref b1), .val (.int (Int32.ofNat r1)), .val (.int (Int32.ofNat r2)), .val (.int (Int32.ofNat r3))] [(.int (Int32.ofNat d)), (.int (Int32.ofNat c_)), (.int (Int32.ofNat bb)), (.int (Int32.ofNat a)), (.int (Int32.ofNat c_)), (.int (Int32.ofNat r2))]))
    refine Go.step (fun _ k => XS.iload X9.here hx rfl (hb hby at_167) rfl k) ?_
    show Go _ _ _ _ (T9.setTop (mkF m 169 #[.val (.int x0), .val (.int x1), .val (.int x2), .val (.int x3), .val (.int x4), .val (.int x5), .val (.int (Int32.ofNat (64 * N))), .val (.int (Int32.ofNat a)), .val (.int (Int32.ofNat bb)), .val (.int (Int32.ofNat c_)), .val (.int (Int32.ofNat d)), .val (.int (Int32.ofNat f)), .val (.ref b1), .val (.int (Int32.ofNat r1)), .val (.int (Int32.ofNat r2)), .val (.int (Int32.ofNat r3))] [(.int (Int32.ofNat (64 * N))), (.int (Int32.ofNat d)), (.int (Int32.ofNat c_)), (.int (Int32.ofNat bb)), (.int (Int32.ofNat a)), (.int (Int32.ofNat c_)), (.int (Int32.ofNat r2))]))
    refine goS X9 hx hZ hown (hw _ (List.mem_of_getElem? (i := 56) rfl)) (hw _ (List.mem_of_getElem? (i := 57) rfl)) (hw _ (List.mem_of_getElem? (i := 58) rfl)) (hw _ (List.mem_of_getElem? (i := 59) rfl)) (by decide) (rm11 l Z a0 hw [] (Int32.ofNat c_) (Int32.ofNat a) (Int32.ofNat bb) (Int32.ofNat c_) (Int32.ofNat d) (Int32.ofNat (64 * N)) _) e9 (by rw [hml]; rfl) [(.int (Int32.ofNat c_)), (.int (Int32.ofNat a)), (.int (Int32.ofNat bb)), (.int (Int32.ofNat c_)), (.int (Int32.ofNat d)), (.int (Int32.ofNat (64 * N)))] [(.int (Int32.ofNat r2))] rfl pd11 rfl rfl 1 rfl (hb hby at_169) (by decide) (by decide) (by decide) (by decide) fun T10 L10 v10 q10 X10 => ?_
    obtain ⟨rfl, e10, rfl⟩ := q10
    rw [List.append_nil] at X10
    show Go _ _ _ _ (T10.setTop (mkF m 172 #[.val (.int x0), .val (.int x1), .val (.int x2), .val (.int x3), .val (.int x4), .val (.int x5), .val (.int (Int32.ofNat (64 * N))), .val (.int (Int32.ofNat a)), .val (.int (Int32.ofNat bb)), .val (.int (Int32.ofNat c_)), .val (.int (Int32.ofNat d)), .val (.int (Int32.ofNat f)), .val (.ref b1), .val (.int (Int32.ofNat r1)), .val (.int (Int32.ofNat r2)), .val (.int (Int32.ofNat r3))] [(.int (own_ref (Int32.ofNat c_) (Int32.ofNat a) (Int32.ofNat bb) (Int32.ofNat c_) (Int32.ofNat d) (Int32.ofNat (64 * N)))), (.int (Int32.ofNat r2))]))
    refine Go.step (fun _ k => XS.icmpNo X10.here hx rfl (hb hby at_172) rfl (teq (own_final hN4 ha hbb hc_ hd (by omega) Fr2)).2 k) ?_
    show Go _ _ _ _ (T10.setTop (mkF m 175 #[.val (.int x0), .val (.int x1), .val (.int x2), .val (.int x3), .val (.int x4), .val (.int x5), .val (.int (Int32.ofNat (64 * N))), .val (.int (Int32.ofNat a)), .val (.int (Int32.ofNat bb)), .val (.int (Int32.ofNat c_)), .val (.int (Int32.ofNat d)), .val (.int (Int32.ofNat f)), .val (.ref b1), .val (.int (Int32.ofNat r1)), .val (.int (Int32.ofNat r2)), .val (.int (Int32.ofNat r3))] []))
    refine Go.step (fun _ k => XS.iload X10.here hx rfl (hb hby at_175) rfl k) ?_
    show Go _ _ _ _ (T10.setTop (mkF m 177 #[.val (.int x0), .val (.int x1), .val (.int x2), .val (.int x3), .val (.int x4), .val (.int x5), .val (.int (Int32.ofNat (64 * N))), .val (.int (Int32.ofNat a)), .val (.int (Int32.ofNat bb)), .val (.int (Int32.ofNat c_)), .val (.int (Int32.ofNat d)), .val (.int (Int32.ofNat f)), .val (.ref b1), .val (.int (Int32.ofNat r1)), .val (.int (Int32.ofNat r2)), .val (.int (Int32.ofNat r3))] [(.int (Int32.ofNat r3))]))
    refine Go.step (fun _ k => XS.iload X10.here hx rfl (hb hby at_177) rfl k) ?_
    show Go _ _ _ _ (T10.setTop (mkF m 179 #[.val (.int x0), .val (.int x1), .val (.int x2), .val (.int x3), .val (.int x4), .val (.int x5), .val (.int (Int32.ofNat (64 * N))), .val (.int (Int32.ofNat a)), .val (.int (Int32.ofNat bb)), .val (.int (Int32.ofNat c_)), .val (.int (Int32.ofNat d)), .val (.int (Int32.ofNat f)), .val (.ref b1), .val (.int (Int32.ofNat r1)), .val (.int (Int32.ofNat r2)), .val (.int (Int32.ofNat r3))] [(.int (Int32.ofNat d)), (.int (Int32.ofNat r3))]))
    refine Go.step (fun _ k => XS.iload X10.here hx rfl (hb hby at_179) rfl k) ?_
    show Go _ _ _ _ (T10.setTop (mkF m 181 #[.val (.int x0), .val (.int x1), .val (.int x2), .val (.int x3), .val (.int x4), .val (.int x5), .val (.int (Int32.ofNat (64 * N))), .val (.int (Int32.ofNat a)), .val (.int (Int32.ofNat bb)), .val (.int (Int32.ofNat c_)), .val (.int (Int32.ofNat d)), .val (.int (Int32.ofNat f)), .val (.ref b1), .val (.int (Int32.ofNat r1)), .val (.int (Int32.ofNat r2)), .val (.int (Int32.ofNat r3))] [(.int (Int32.ofNat a)), (.int (Int32.ofNat d)), (.int (Int32.ofNat r3))]))
    refine Go.step (fun _ k => XS.iload X10.here hx rfl (hb hby at_181) rfl k) ?_
    show Go _ _ _ _ (T10.setTop (mkF m 183 #[.val (.int x0), .val (.int x1), .val (.int x2), .val (.int x3), .val (.int x4), .val (.int x5), .val (.int (Int32.ofNat (64 * N))), .val (.int (Int32.ofNat a)), .val (.int (Int32.ofNat bb)), .val (.int (Int32.ofNat c_)), .val (.int (Int32.ofNat d)), .val (.int (Int32.ofNat f)), .val (.ref b1), .val (.int (Int32.ofNat r1)), .val (.int (Int32.ofNat r2)), .val (.int (Int32.ofNat r3))] [(.int (Int32.ofNat bb)), (.int (Int32.ofNat a)), (.int (Int32.ofNat d)), (.int (Int32.ofNat r3))]))
    refine Go.step (fun _ k => XS.iload X10.here hx rfl (hb hby at_183) rfl k) ?_
    show Go _ _ _ _ (T10.setTop (mkF m 185 #[.val (.int x0), .val (.int x1), .val (.int x2), .val (.int x3), .val (.int x4), .val (.int x5), .val (.int (Int32.ofNat (64 * N))), .val (.int (Int32.ofNat a)), .val (.int (Int32.ofNat bb)), .val (.int (Int32.ofNat c_)), .val (.int (Int32.ofNat d)), .val (.int (Int32.ofNat f)), .val (.ref b1), .val (.int (Int32.ofNat r1)), .val (.int (Int32.ofNat r2)), .val (.int (Int32.ofNat r3))] [(.int (Int32.ofNat c_)), (.int (Int32.ofNat bb)), (.int (Int32.ofNat a)), (.int (Int32.ofNat d)), (.int (Int32.ofNat r3))]))
    refine Go.step (fun _ k => XS.iload X10.here hx rfl (hb hby at_185) rfl k) ?_
    show Go _ _ _ _ (T10.setTop (mkF m 187 #[.val (.int x0), .val (.int x1), .val (.int x2), .val (.int x3), .val (.int x4), .val (.int x5), .val (.int (Int32.ofNat (64 * N))), .val (.int (Int32.ofNat a)), .val (.int (Int32.ofNat bb)), .val (.int (Int32.ofNat c_)), .val (.int (Int32.ofNat d)), .val (.int (Int32.ofNat f)), .val (.ref b1), .val (.int (Int32.ofNat r1)), .val (.int (Int32.ofNat r2)), .val (.int (Int32.ofNat r3))] [(.int (Int32.ofNat d)), (.int (Int32.ofNat c_)), (.int (Int32.ofNat bb)), (.int (Int32.ofNat a)), (.int (Int32.ofNat d)), (.int (Int32.ofNat r3))]))
    refine Go.step (fun _ k => XS.iload X10.here hx rfl (hb hby at_187) rfl k) ?_
    show Go _ _ _ _ (T10.setTop (mkF m 189 #[.val (.int x0), .val (.int x1), .val (.int x2), .val (.int x3), .val (.int x4), .val (.int x5), .val (.int (Int32.ofNat (64 * N))), .val (.int (Int32.ofNat a)), .val (.int (Int32.ofNat bb)), .val (.int (Int32.ofNat c_)), .val (.int (Int32.ofNat d)), .val (.int (Int32.ofNat f)), .val (.ref b1), .val (.int (Int32.ofNat r1)), .val (.int (Int32.ofNat r2)), .val (.int (Int32.ofNat r3))] [(.int (Int32.ofNat (64 * N))), (.int (Int32.ofNat d)), (.int (Int32.ofNat c_)), (.int (Int32.ofNat bb)), (.int (Int32.ofNat a)), (.int (Int32.ofNat d)), (.int (Int32.ofNat r3))]))
    refine goS X10 hx hZ hown (hw _ (List.mem_of_getElem? (i := 56) rfl)) (hw _ (List.mem_of_getElem? (i := 57) rfl)) (hw _ (List.mem_of_getElem? (i := 58) rfl)) (hw _ (List.mem_of_getElem? (i := 59) rfl)) (by decide) (rm11 l Z a0 hw [] (Int32.ofNat d) (Int32.ofNat a) (Int32.ofNat bb) (Int32.ofNat c_) (Int32.ofNat d) (Int32.ofNat (64 * N)) _) e10 (by rw [hml]; rfl) [(.int (Int32.ofNat d)), (.int (Int32.ofNat a)), (.int (Int32.ofNat bb)), (.int (Int32.ofNat c_)), (.int (Int32.ofNat d)), (.int (Int32.ofNat (64 * N)))] [(.int (Int32.ofNat r3))] rfl pd11 rfl rfl 1 rfl (hb hby at_189) (by decide) (by decide) (by decide) (by decide) fun T11 L11 v11 q11 X11 => ?_
    obtain ⟨rfl, e11, rfl⟩ := q11
    rw [List.append_nil] at X11
    show Go _ _ _ _ (T11.setTop (mkF m 192 #[.val (.int x0), .val (.int x1), .val (.int x2), .val (.int x3), .val (.int x4), .val (.int x5), .val (.int (Int32.ofNat (64 * N))), .val (.int (Int32.ofNat a)), .val (.int (Int32.ofNat bb)), .val (.int (Int32.ofNat c_)), .val (.int (Int32.ofNat d)), .val (.int (Int32.ofNat f)), .val (.ref b1), .val (.int (Int32.ofNat r1)), .val (.int (Int32.ofNat r2)), .val (.int (Int32.ofNat r3))] [(.int (own_ref (Int32.ofNat d) (Int32.ofNat a) (Int32.ofNat bb) (Int32.ofNat c_) (Int32.ofNat d) (Int32.ofNat (64 * N)))), (.int (Int32.ofNat r3))]))
    refine Go.step (fun _ k => XS.icmpNo X11.here hx rfl (hb hby at_192) rfl (teq (own_final hN4 ha hbb hc_ hd (by omega) Fr3)).2 k) ?_
    show Go _ _ _ _ (T11.setTop (mkF m 195 #[.val (.int x0), .val (.int x1), .val (.int x2), .val (.int x3), .val (.int x4), .val (.int x5), .val (.int (Int32.ofNat (64 * N))), .val (.int (Int32.ofNat a)), .val (.int (Int32.ofNat bb)), .val (.int (Int32.ofNat c_)), .val (.int (Int32.ofNat d)), .val (.int (Int32.ofNat f)), .val (.ref b1), .val (.int (Int32.ofNat r1)), .val (.int (Int32.ofNat r2)), .val (.int (Int32.ofNat r3))] []))
    refine Go.step (fun _ k => XS.iconst X11.here hx rfl (hb hby at_195) k) ?_
    show Go _ _ _ _ (T11.setTop (mkF m 196 #[.val (.int x0), .val (.int x1), .val (.int x2), .val (.int x3), .val (.int x4), .val (.int x5), .val (.int (Int32.ofNat (64 * N))), .val (.int (Int32.ofNat a)), .val (.int (Int32.ofNat bb)), .val (.int (Int32.ofNat c_)), .val (.int (Int32.ofNat d)), .val (.int (Int32.ofNat f)), .val (.ref b1), .val (.int (Int32.ofNat r1)), .val (.int (Int32.ofNat r2)), .val (.int (Int32.ofNat r3))] [(.int (1 : Int32))]))
    refine Go.step (fun _ k => XS.goto X11.here hx rfl (pc0 := 196) (pc' := 200) rfl (hb hby at_196) (by decide) (by decide) k) ?_
    show Go _ _ _ _ (T11.setTop (mkF m 200 #[.val (.int x0), .val (.int x1), .val (.int x2), .val (.int x3), .val (.int x4), .val (.int x5), .val (.int (Int32.ofNat (64 * N))), .val (.int (Int32.ofNat a)), .val (.int (Int32.ofNat bb)), .val (.int (Int32.ofNat c_)), .val (.int (Int32.ofNat d)), .val (.int (Int32.ofNat f)), .val (.ref b1), .val (.int (Int32.ofNat r1)), .val (.int (Int32.ofNat r2)), .val (.int (Int32.ofNat r3))] [(.int (1 : Int32))]))
    exact leafN X11 hx (t := .boolean) hret (by simp) hlk (w := (1 : Int32)) rfl (hb hby at_200) ⟨rfl, (Fr.app (Fr.app (Fr.app (Fr.app (Fr.app (Fr.nil _) NC) N2) N3) N4) N5)⟩ (by decide) (by decide)
  refine Go.step (fun _ k => XS.iload X0.here hx rfl (hb hby at_47) rfl k) ?_
  show Go _ _ _ _ (s₁.setTop (mkF m 49 #[.val (.int x0), .val (.int x1), .val (.int x2), .val (.int x3), .val (.int x4), .val (.int x5), .val (.int (Int32.ofNat (64 * N))), .val (.int (Int32.ofNat a)), .val (.int (Int32.ofNat bb)), .val (.int (Int32.ofNat c_)), .val (.int (Int32.ofNat d)), .unset, .unset, .unset, .unset, .unset] [(.int x5)]))
  by_cases hc12 : x5 < (0 : Int32)
  · refine Go.step (fun _ k => XS.ifNo X0.here hx rfl (hb hby at_49) rfl ((if0 _ _).trans (tlt hc12).2.1) k) ?_
    show Go _ _ _ _ (s₁.setTop (mkF m 52 #[.val (.int x0), .val (.int x1), .val (.int x2), .val (.int x3), .val (.int x4), .val (.int x5), .val (.int (Int32.ofNat (64 * N))), .val (.int (Int32.ofNat a)), .val (.int (Int32.ofNat bb)), .val (.int (Int32.ofNat c_)), .val (.int (Int32.ofNat d)), .unset, .unset, .unset, .unset, .unset] []))
    refine Go.step (fun _ k => XS.iload X0.here hx rfl (hb hby at_52) rfl k) ?_
    show Go _ _ _ _ (s₁.setTop (mkF m 54 #[.val (.int x0), .val (.int x1), .val (.int x2), .val (.int x3), .val (.int x4), .val (.int x5), .val (.int (Int32.ofNat (64 * N))), .val (.int (Int32.ofNat a)), .val (.int (Int32.ofNat bb)), .val (.int (Int32.ofNat c_)), .val (.int (Int32.ofNat d)), .unset, .unset, .unset, .unset, .unset] [(.int x5)]))
    refine Go.step (X0.ldcInt hx hown (mvT hZ (hw _ (List.mem_of_getElem? (i := 0) rfl))) (g := (mkF m 54 #[.val (.int x0), .val (.int x1), .val (.int x2), .val (.int x3), .val (.int x4), .val (.int x5), .val (.int (Int32.ofNat (64 * N))), .val (.int (Int32.ofNat a)), .val (.int (Int32.ofNat bb)), .val (.int (Int32.ofNat c_)), .val (.int (Int32.ofNat d)), .unset, .unset, .unset, .unset, .unset] [(.int x5)])) rfl (hb hby at_54)) ?_
    show Go _ _ _ _ (s₁.setTop (mkF m 56 #[.val (.int x0), .val (.int x1), .val (.int x2), .val (.int x3), .val (.int x4), .val (.int x5), .val (.int (Int32.ofNat (64 * N))), .val (.int (Int32.ofNat a)), .val (.int (Int32.ofNat bb)), .val (.int (Int32.ofNat c_)), .val (.int (Int32.ofNat d)), .unset, .unset, .unset, .unset, .unset] [(.int (2147483647 : Int32)), (.int x5)]))
    refine Go.step (fun _ k => XS.iand X0.here hx rfl (hb hby at_56) rfl k) ?_
    show Go _ _ _ _ (s₁.setTop (mkF m 57 #[.val (.int x0), .val (.int x1), .val (.int x2), .val (.int x3), .val (.int x4), .val (.int x5), .val (.int (Int32.ofNat (64 * N))), .val (.int (Int32.ofNat a)), .val (.int (Int32.ofNat bb)), .val (.int (Int32.ofNat c_)), .val (.int (Int32.ofNat d)), .unset, .unset, .unset, .unset, .unset] [(.int (x5 &&& (2147483647 : Int32)))]))
    refine Go.step (fun _ k => XS.goto X0.here hx rfl (pc0 := 57) (pc' := 67) rfl (hb hby at_57) (by decide) (by decide) k) ?_
    show Go _ _ _ _ (s₁.setTop (mkF m 67 #[.val (.int x0), .val (.int x1), .val (.int x2), .val (.int x3), .val (.int x4), .val (.int x5), .val (.int (Int32.ofNat (64 * N))), .val (.int (Int32.ofNat a)), .val (.int (Int32.ofNat bb)), .val (.int (Int32.ofNat c_)), .val (.int (Int32.ofNat d)), .unset, .unset, .unset, .unset, .unset] [(.int (x5 &&& (2147483647 : Int32)))]))
    obtain ⟨f, f1, f2, f3⟩ := own_nat (x5 &&& (2147483647 : Int32)) (own_max x5)
    rw [f3]
    show Go _ _ _ _ (s₁.setTop (mkF m 67 #[.val (.int x0), .val (.int x1), .val (.int x2), .val (.int x3), .val (.int x4), .val (.int x5), .val (.int (Int32.ofNat (64 * N))), .val (.int (Int32.ofNat a)), .val (.int (Int32.ofNat bb)), .val (.int (Int32.ofNat c_)), .val (.int (Int32.ofNat d)), .unset, .unset, .unset, .unset, .unset] [(.int (Int32.ofNat f))]))
    refine Go.step (fun _ k => XS.istore X0.here hx rfl (hb hby at_67) rfl (l' := #[.val (.int x0), .val (.int x1), .val (.int x2), .val (.int x3), .val (.int x4), .val (.int x5), .val (.int (Int32.ofNat (64 * N))), .val (.int (Int32.ofNat a)), .val (.int (Int32.ofNat bb)), .val (.int (Int32.ofNat c_)), .val (.int (Int32.ofNat d)), .val (.int (Int32.ofNat f)), .unset, .unset, .unset, .unset]) rfl k) ?_
    show Go _ _ _ _ (s₁.setTop (mkF m 69 #[.val (.int x0), .val (.int x1), .val (.int x2), .val (.int x3), .val (.int x4), .val (.int x5), .val (.int (Int32.ofNat (64 * N))), .val (.int (Int32.ofNat a)), .val (.int (Int32.ofNat bb)), .val (.int (Int32.ofNat c_)), .val (.int (Int32.ofNat d)), .val (.int (Int32.ofNat f)), .unset, .unset, .unset, .unset] []))
    exact tail _ f1
  · refine Go.step (fun _ k => XS.ifYes X0.here hx rfl (pc0 := 49) (pc' := 60) rfl (hb hby at_49) rfl ((if0 _ _).trans (flt hc12).2.1) (by decide) (by decide) k) ?_
    show Go _ _ _ _ (s₁.setTop (mkF m 60 #[.val (.int x0), .val (.int x1), .val (.int x2), .val (.int x3), .val (.int x4), .val (.int x5), .val (.int (Int32.ofNat (64 * N))), .val (.int (Int32.ofNat a)), .val (.int (Int32.ofNat bb)), .val (.int (Int32.ofNat c_)), .val (.int (Int32.ofNat d)), .unset, .unset, .unset, .unset, .unset] []))
    refine Go.step (fun _ k => XS.iload X0.here hx rfl (hb hby at_60) rfl k) ?_
    show Go _ _ _ _ (s₁.setTop (mkF m 62 #[.val (.int x0), .val (.int x1), .val (.int x2), .val (.int x3), .val (.int x4), .val (.int x5), .val (.int (Int32.ofNat (64 * N))), .val (.int (Int32.ofNat a)), .val (.int (Int32.ofNat bb)), .val (.int (Int32.ofNat c_)), .val (.int (Int32.ofNat d)), .unset, .unset, .unset, .unset, .unset] [(.int x5)]))
    refine Go.step (fun _ k => XS.iload X0.here hx rfl (hb hby at_62) rfl k) ?_
    show Go _ _ _ _ (s₁.setTop (mkF m 64 #[.val (.int x0), .val (.int x1), .val (.int x2), .val (.int x3), .val (.int x4), .val (.int x5), .val (.int (Int32.ofNat (64 * N))), .val (.int (Int32.ofNat a)), .val (.int (Int32.ofNat bb)), .val (.int (Int32.ofNat c_)), .val (.int (Int32.ofNat d)), .unset, .unset, .unset, .unset, .unset] [(.int (Int32.ofNat (64 * N))), (.int x5)]))
    refine Go.step (fun _ k => XS.iconst X0.here hx rfl (hb hby at_64) k) ?_
    show Go _ _ _ _ (s₁.setTop (mkF m 65 #[.val (.int x0), .val (.int x1), .val (.int x2), .val (.int x3), .val (.int x4), .val (.int x5), .val (.int (Int32.ofNat (64 * N))), .val (.int (Int32.ofNat a)), .val (.int (Int32.ofNat bb)), .val (.int (Int32.ofNat c_)), .val (.int (Int32.ofNat d)), .unset, .unset, .unset, .unset, .unset] [(.int (1 : Int32)), (.int (Int32.ofNat (64 * N))), (.int x5)]))
    refine Go.step (fun _ k => XS.iadd X0.here hx rfl (hb hby at_65) rfl k) ?_
    rw [own_one]
    show Go _ _ _ _ (s₁.setTop (mkF m 66 #[.val (.int x0), .val (.int x1), .val (.int x2), .val (.int x3), .val (.int x4), .val (.int x5), .val (.int (Int32.ofNat (64 * N))), .val (.int (Int32.ofNat a)), .val (.int (Int32.ofNat bb)), .val (.int (Int32.ofNat c_)), .val (.int (Int32.ofNat d)), .unset, .unset, .unset, .unset, .unset] [(.int (Int32.ofNat (64 * N + 1))), (.int x5)]))
    refine Go.step (fun _ k => XS.irem X0.here hx rfl (hb hby at_66) rfl (own_nz (by omega) (by omega)) k) ?_
    show Go _ _ _ _ (s₁.setTop (mkF m 67 #[.val (.int x0), .val (.int x1), .val (.int x2), .val (.int x3), .val (.int x4), .val (.int x5), .val (.int (Int32.ofNat (64 * N))), .val (.int (Int32.ofNat a)), .val (.int (Int32.ofNat bb)), .val (.int (Int32.ofNat c_)), .val (.int (Int32.ofNat d)), .unset, .unset, .unset, .unset, .unset] [(.int (x5 - (x5 / (Int32.ofNat (64 * N + 1))) * (Int32.ofNat (64 * N + 1))))]))
    have x5n : 0 ≤ x5.toInt := by have := hc12; rw [Int32.lt_iff_toInt_lt, show (0 : Int32).toInt = 0 from rfl] at this; omega
    obtain ⟨f, f0, f3⟩ := own_mod x5 x5n (64 * N + 1) (by omega) (by omega)
    have f1 : f < 2147483648 := by omega
    rw [f3]
    show Go _ _ _ _ (s₁.setTop (mkF m 67 #[.val (.int x0), .val (.int x1), .val (.int x2), .val (.int x3), .val (.int x4), .val (.int x5), .val (.int (Int32.ofNat (64 * N))), .val (.int (Int32.ofNat a)), .val (.int (Int32.ofNat bb)), .val (.int (Int32.ofNat c_)), .val (.int (Int32.ofNat d)), .unset, .unset, .unset, .unset, .unset] [(.int (Int32.ofNat f))]))
    refine Go.step (fun _ k => XS.istore X0.here hx rfl (hb hby at_67) rfl (l' := #[.val (.int x0), .val (.int x1), .val (.int x2), .val (.int x3), .val (.int x4), .val (.int x5), .val (.int (Int32.ofNat (64 * N))), .val (.int (Int32.ofNat a)), .val (.int (Int32.ofNat bb)), .val (.int (Int32.ofNat c_)), .val (.int (Int32.ofNat d)), .val (.int (Int32.ofNat f)), .unset, .unset, .unset, .unset]) rfl k) ?_
    show Go _ _ _ _ (s₁.setTop (mkF m 69 #[.val (.int x0), .val (.int x1), .val (.int x2), .val (.int x3), .val (.int x4), .val (.int x5), .val (.int (Int32.ofNat (64 * N))), .val (.int (Int32.ofNat a)), .val (.int (Int32.ofNat bb)), .val (.int (Int32.ofNat c_)), .val (.int (Int32.ofNat d)), .val (.int (Int32.ofNat f)), .unset, .unset, .unset, .unset] []))
    exact tail _ f1
set_option maxRecDepth 65536 in
set_option maxHeartbeats 40000000 in
theorem comes_1 {Post : Tables → Env → Array Value → State → Outcome → State → Prop} (hpost : ∀ tb e args s v u, (limb_1_1.after args s (.returned v) u = true ∧ limb_1_2.after args s (.returned v) u = true ∧ True) → FrameEnd s (.returned v) u (Jvm.fieldLocs frame_1_writes args s ++ Jvm.arrayLocs frame_1_arrays args s ++ Jvm.staticLocs frame_1_statics s) 16 128 → Post tb e args s (.returned v) u) :
    ArmFor flags0 classFile x code maxLocals ret World_1 tables_1 room_1 Calls_1 rest_1 Pre_1 Post := by
  intro l hfl _ _ p e ha hc hk s m args below hf hA hF happ hP
  obtain ⟨hcalls, hrest, hpre⟩ := hP
  obtain ⟨-, -, -, hnamed, -, -, -, hat⟩ := (Spec.applies_iff hf).mp happ
  obtain ⟨hg, hn⟩ := and_e (Cond.before_iff.mp (show (Jvm.Cond.and given_1 narrow_1).before args s = true from hpre))
  obtain ⟨hcount, hg0⟩ := and_e hg
  obtain ⟨ha0, hg1⟩ := and_e hg0
  obtain ⟨ha1, hg2⟩ := and_e hg1
  obtain ⟨ha2, hg3⟩ := and_e hg2
  obtain ⟨ha3, hg4⟩ := and_e hg3
  obtain ⟨ha4, hg5⟩ := and_e hg4
  have ha5 := hg5
  obtain ⟨w0, w1, w2, w3, w4, w5, rfl⟩ : ∃ w0 w1 w2 w3 w4 w5 : Value, args = #[w0, w1, w2, w3, w4, w5] := by
    have hs : args.size = 6 := by simpa [Cond.value, given_1] using hcount
    obtain ⟨L⟩ := args
    match L, hs with
    | [w0, w1, w2, w3, w4, w5], _ => exact ⟨w0, w1, w2, w3, w4, w5, rfl⟩
  have hw := fun d (hd : d ∈ tables_1) => atoms_spec (ws := Jvm.Cond.code x code maxLocals ret :: tables_1) hat d (List.mem_cons_of_mem _ hd)
  obtain ⟨i0, ei0⟩ := is_v ha0
  obtain rfl : w0 = (.int i0) := Option.some.inj ei0
  obtain ⟨i1, ei1⟩ := is_v ha1
  obtain rfl : w1 = (.int i1) := Option.some.inj ei1
  obtain ⟨i2, ei2⟩ := is_v ha2
  obtain rfl : w2 = (.int i2) := Option.some.inj ei2
  obtain ⟨i3, ei3⟩ := is_v ha3
  obtain rfl : w3 = (.int i3) := Option.some.inj ei3
  obtain ⟨i4, ei4⟩ := is_v ha4
  obtain rfl : w4 = (.int i4) := Option.some.inj ei4
  obtain ⟨i5, ei5⟩ := is_v ha5
  obtain rfl : w5 = (.int i5) := Option.some.inj ei5
  obtain ⟨n, o, h1, h2, h3, _, L, rfl, ⟨rfl, N⟩, hq⟩ := rm0 l s _ hw tables_1 i0 i1 i2 i3 i4 i5 s.heap p e ha hc hk s m _ below hf ((Spec.applies_iff_loose hf).mp happ).1 ⟨rfl, State.Warmed39.refl s, rfl⟩ trivial
  refine ⟨n, _, h1, h2, h3, hpost _ _ _ _ _ _ ⟨Cond.after_iff.mpr rfl, Cond.after_iff.mpr (eq_i res_at (Term.int_eval (1)) rfl), trivial⟩ ⟨hq.1, hq.2.1, (hq.2.2.sift fun y hy => Or.inr (N y hy)).mono (by decide) (by decide)⟩⟩
theorem main_1_1 : Claimed_1_1 := comes_1 fun _ _ _ _ _ _ h hF => ⟨h.1, hF⟩
theorem main_1_2 : Claimed_1_2 := comes_1 fun _ _ _ _ _ _ h hF => ⟨h.2.1, hF⟩
end Jvm.Pilot.@@N@@
namespace Jvm.Pilot.@@N@@
open Jvm Jvm.ClassFile Sem Op Lib Jvm.Free Jvm.Stand Jvm.Pilot.@@N@@.Jvm.D
/-! MADE BY PROGRAM (witnessworld.py) out of the Statement's table words and the real class files: 19 classes; the members and pool entries that the words name. The judged class is class 1, her method 3. -/
namespace start1
open Jvm.ClassFile
def u (s : String) : CpInfo := .utf8 (stringToUtf16 s)
/-- a pool by its gaps: so many unusable entries, then the entry; so many at the end -/
def gap : Nat → List CpInfo → List CpInfo
  | 0, r => r
  | n + 1, r => .unusable :: gap n r
def poolList (es : List (Nat × CpInfo)) (last : Nat) : List CpInfo := es.foldr (fun e r => gap e.1 (e.2 :: r)) (gap last [])
def pool (es : List (Nat × CpInfo)) (last : Nat) : Array CpInfo := ⟨poolList es last⟩
def fileOf (pool : Array CpInfo) (this : Nat) (attrs : Array Attribute := #[]) (ms : Array MethodInfo := #[]) (fl : Nat := 33) (sup : Nat := 0) (ifs : Array Nat := #[]) (fds : Array FieldInfo := #[]) : ClassFile where
  minorVersion := 0
  majorVersion := 65
  constantPool := pool
  accessFlags := fl
  thisClass := this
  superClass := sup
  interfaces := ifs
  fields := fds
  methods := ms
  attributes := attrs
def plain (name : String) (sup : Option ClassId) : Class where
  name := name
  kind := .ordinary
  loader := none
  accessFlags := 33
  super := sup
  interfaces := #[]
  cf := none
  fields := #[]
  methods := #[]
  instanceTypes := #[]
  staticTypes := #[]
  resolved := #[]
  callSites := []
  init := .initialized
  statics := none
  mirror := none

def pool0 : Array CpInfo := pool [(5, u "<init>"), (0, u "()V"), (1, .class_ 10), (1, u "java/lang/Object")] 113

def k0c0 : Code := { maxStack := 0, maxLocals := 1, code := object_method_1_code, exceptionTable := #[], attributes := #[] }
def k0m0 : Method := { name := "<init>", desc := "()V", sig := { parameters := [], returnType := none }, accessFlags := 1, code := some k0c0 }
/-- java/lang/Object -/
def k0 : Class := { plain "java/lang/Object" none with
  accessFlags := 33
  interfaces := #[]
  cf := some (fileOf pool0 8 #[] #[{ accessFlags := 1, nameIndex := 5, descriptorIndex := 6, attributes := #[] }] 33 0 #[] #[])
  fields := #[]
  methods := #[k0m0]
  instanceTypes := #[]
  staticTypes := #[]
  resolved := Array.replicate 124 none
  statics := none }

def pool1 : Array CpInfo := pool [(2, .class_ 4), (1, u "java/lang/Object"), (0, u "<init>"), (0, u "()V"), (0, .methodref 8 9), (0, .class_ 10), (0, .nameAndType 11 12), (0, u "com/example/prefix_scope/prefixscope/NumberSetRemovePinLaw"), (0, u "in"), (0, u "(IIIII)Z"), (0, .methodref 14 15), (0, .class_ 16), (0, .nameAndType 17 18), (0, u "java/lang/Math"), (0, u "min"), (0, u "(II)I"), (0, .integer 2147483647), (0, .class_ 21), (0, u "com/example/prefix_scope/prefixscope/NumberSet"), (0, .methodref 20 23), (0, .nameAndType 5 24), (0, u "(I)V"), (0, .methodref 20 26), (0, .nameAndType 27 24), (0, u "add"), (0, .methodref 20 29), (0, .nameAndType 30 24), (0, u "remove"), (0, .methodref 20 32), (0, .nameAndType 33 34), (0, u "firstAbsent"), (0, u "(I)I"), (0, .methodref 8 36), (0, .nameAndType 37 38), (0, u "ref"), (0, u "(IIIIII)I"), (3, u "law"), (0, u "(IIIIII)Z")] 2

def k1m0 : Method := { name := "<init>", desc := "()V", sig := { parameters := [], returnType := none }, accessFlags := 1, code := none }
def k1c1 : Code := { maxStack := 2, maxLocals := 5, code := method_2_code, exceptionTable := #[], attributes := #[] }
def k1m1 : Method := { name := "in", desc := "(IIIII)Z", sig := { parameters := [.int, .int, .int, .int, .int], returnType := some .boolean }, accessFlags := 10, code := some k1c1 }
def k1c2 : Code := { maxStack := 5, maxLocals := 7, code := method_3_code, exceptionTable := #[], attributes := #[] }
def k1m2 : Method := { name := "ref", desc := "(IIIIII)I", sig := { parameters := [.int, .int, .int, .int, .int, .int], returnType := some .int }, accessFlags := 10, code := some k1c2 }
def k1c3 : Code := { maxStack := 7, maxLocals := 16, code := code, exceptionTable := #[], attributes := #[] }
def k1m3 : Method := { name := "law", desc := "(IIIIII)Z", sig := { parameters := [.int, .int, .int, .int, .int, .int], returnType := some .boolean }, accessFlags := 9, code := some k1c3 }
/-- com/example/prefix_scope/prefixscope/NumberSetRemovePinLaw -/
def k1 : Class := { plain "com/example/prefix_scope/prefixscope/NumberSetRemovePinLaw" (some 0) with
  accessFlags := 49
  interfaces := #[]
  cf := some (fileOf pool1 8 #[] #[{ accessFlags := 1, nameIndex := 5, descriptorIndex := 6, attributes := #[] }, { accessFlags := 10, nameIndex := 11, descriptorIndex := 12, attributes := #[] }, { accessFlags := 10, nameIndex := 37, descriptorIndex := 38, attributes := #[] }, { accessFlags := 9, nameIndex := 42, descriptorIndex := 43, attributes := #[] }] 49 2 #[] #[])
  fields := #[]
  methods := #[k1m0, k1m1, k1m2, k1m3]
  instanceTypes := #[]
  staticTypes := #[]
  resolved := Array.replicate 46 none
  statics := none }

def pool2 : Array CpInfo := pool [(1, .methodref 2 3), (0, .class_ 4), (0, .nameAndType 5 6), (0, u "java/lang/Object"), (0, u "<init>"), (0, u "()V"), (0, .fieldref 8 9), (0, .class_ 10), (0, .nameAndType 11 12), (0, u "com/example/prefix_scope/prefixscope/NumberSet"), (0, u "capacity"), (0, u "I"), (0, .class_ 14), (0, u "[J"), (0, .fieldref 8 16), (0, .nameAndType 17 18), (0, u "levels"), (0, u "[[J"), (0, .methodref 8 20), (0, .nameAndType 21 6), (0, u "clear"), (0, .methodref 8 23), (0, .nameAndType 24 25), (0, u "fill"), (0, u "(II)V"), (0, .long 18446744073709551615), (1, .methodref 29 30), (0, .class_ 31), (0, .nameAndType 32 33), (0, u "java/lang/Long"), (0, u "numberOfTrailingZeros"), (0, u "(J)I"), (0, .methodref 35 36), (0, .class_ 37), (0, .nameAndType 24 38), (0, u "java/util/Arrays"), (0, u "([JJ)V"), (0, u "(I)V"), (4, u "add"), (0, u "remove"), (0, u "firstAbsent"), (0, u "(I)I")] 3

def k2c0 : Code := { maxStack := 3, maxLocals := 5, code := prog_9_method_1_code, exceptionTable := #[], attributes := #[] }
def k2m0 : Method := { name := "<init>", desc := "(I)V", sig := { parameters := [.int], returnType := none }, accessFlags := 0, code := some k2c0 }
def k2c1 : Code := { maxStack := 3, maxLocals := 2, code := prog_9_method_3_code, exceptionTable := #[], attributes := #[] }
def k2m1 : Method := { name := "add", desc := "(I)V", sig := { parameters := [.int], returnType := none }, accessFlags := 0, code := some k2c1 }
def k2c2 : Code := { maxStack := 8, maxLocals := 8, code := prog_9_method_4_code, exceptionTable := #[], attributes := #[] }
def k2m2 : Method := { name := "remove", desc := "(I)V", sig := { parameters := [.int], returnType := none }, accessFlags := 0, code := some k2c2 }
def k2c3 : Code := { maxStack := 5, maxLocals := 6, code := prog_9_method_5_code, exceptionTable := #[], attributes := #[] }
def k2m3 : Method := { name := "firstAbsent", desc := "(I)I", sig := { parameters := [.int], returnType := some .int }, accessFlags := 0, code := some k2c3 }
def k2c4 : Code := { maxStack := 3, maxLocals := 5, code := prog_9_method_6_code, exceptionTable := #[], attributes := #[] }
def k2m4 : Method := { name := "clear", desc := "()V", sig := { parameters := [], returnType := none }, accessFlags := 0, code := some k2c4 }
def k2c5 : Code := { maxStack := 7, maxLocals := 8, code := prog_9_method_7_code, exceptionTable := #[], attributes := #[] }
def k2m5 : Method := { name := "fill", desc := "(II)V", sig := { parameters := [.int, .int], returnType := none }, accessFlags := 2, code := some k2c5 }
/-- com/example/prefix_scope/prefixscope/NumberSet -/
def k2 : Class := { plain "com/example/prefix_scope/prefixscope/NumberSet" (some 0) with
  accessFlags := 32
  interfaces := #[]
  cf := some (fileOf pool2 8 #[] #[{ accessFlags := 0, nameIndex := 5, descriptorIndex := 39, attributes := #[] }, { accessFlags := 0, nameIndex := 44, descriptorIndex := 39, attributes := #[] }, { accessFlags := 0, nameIndex := 45, descriptorIndex := 39, attributes := #[] }, { accessFlags := 0, nameIndex := 46, descriptorIndex := 47, attributes := #[] }, { accessFlags := 0, nameIndex := 21, descriptorIndex := 6, attributes := #[] }, { accessFlags := 2, nameIndex := 24, descriptorIndex := 25, attributes := #[] }] 32 2 #[] #[{ accessFlags := 18, nameIndex := 17, descriptorIndex := 18, attributes := #[] }, { accessFlags := 18, nameIndex := 11, descriptorIndex := 12, attributes := #[] }])
  fields := #[{ name := "levels", type := (.array (.array .long)), accessFlags := 18, slot := 0, constantValue := 0 }, { name := "capacity", type := .int, accessFlags := 18, slot := 1, constantValue := 0 }]
  methods := #[k2m0, k2m1, k2m2, k2m3, k2m4, k2m5]
  instanceTypes := #[(.array (.array .long)), .int]
  staticTypes := #[]
  resolved := Array.replicate 51 none
  statics := none }

def pool3 : Array CpInfo := pool [(2, .class_ 4), (1, u "java/lang/Object"), (0, u "<init>"), (0, u "()V"), (7, .class_ 16), (1, u "java/util/Arrays"), (57, .class_ 76), (1, u "java/util/Arrays$NaturalOrder"), (36, .class_ 115), (1, u "java/util/Arrays$LegacyMergeSort"), (1, u "Z"), (257, .class_ 376), (0, u "java/util/Arrays$ArrayList"), (68, u "$assertionsDisabled"), (269, u "MIN_ARRAY_SORT_GRAN"), (0, u "I"), (2, u "INSERTIONSORT_THRESHOLD"), (120, u "fill"), (0, u "([JJ)V"), (133, .class_ 976), (0, u "java/util/Arrays$ArrayItr")] 52

def k3m0 : Method := { name := "<init>", desc := "()V", sig := { parameters := [], returnType := none }, accessFlags := 2, code := none }
def k3c1 : Code := { maxStack := 4, maxLocals := 5, code := jdk_65_method_101_code, exceptionTable := #[], attributes := #[] }
def k3m1 : Method := { name := "fill", desc := "([JJ)V", sig := { parameters := [(.array .long), .long], returnType := none }, accessFlags := 9, code := some k3c1 }
/-- java/util/Arrays -/
def k3 : Class := { plain "java/util/Arrays" (some 0) with
  accessFlags := 49
  interfaces := #[]
  cf := some (fileOf pool3 14 #[.nestMembers #[975, 375, 113, 74]] #[{ accessFlags := 2, nameIndex := 5, descriptorIndex := 6, attributes := #[] }, { accessFlags := 9, nameIndex := 840, descriptorIndex := 841, attributes := #[] }] 49 2 #[] #[{ accessFlags := 26, nameIndex := 715, descriptorIndex := 716, attributes := #[] }, { accessFlags := 26, nameIndex := 719, descriptorIndex := 716, attributes := #[] }, { accessFlags := 4120, nameIndex := 445, descriptorIndex := 117, attributes := #[] }])
  fields := #[{ name := "MIN_ARRAY_SORT_GRAN", type := .int, accessFlags := 26, slot := 0, constantValue := 0 }, { name := "INSERTIONSORT_THRESHOLD", type := .int, accessFlags := 26, slot := 1, constantValue := 0 }, { name := "$assertionsDisabled", type := .boolean, accessFlags := 4120, slot := 2, constantValue := 0 }]
  methods := #[k3m0, k3m1]
  instanceTypes := #[]
  staticTypes := #[.int, .int, .boolean]
  resolved := Array.replicate 1029 none
  statics := none }

def pool4 : Array CpInfo := pool [(1, .class_ 2), (0, u "java/io/Serializable"), (0, .class_ 4), (0, u "java/lang/Object")] 2

/-- java/io/Serializable -/
def k4 : Class := { plain "java/io/Serializable" (some 0) with
  accessFlags := 1537
  interfaces := #[]
  cf := some (fileOf pool4 1 #[] #[] 1537 3 #[] #[])
  fields := #[]
  methods := #[]
  instanceTypes := #[]
  staticTypes := #[]
  resolved := Array.replicate 7 none
  statics := none }

def pool5 : Array CpInfo := pool [(2, .class_ 4), (1, u "java/lang/Object"), (0, u "<init>"), (0, u "()V"), (1, .class_ 10), (1, u "java/lang/Number"), (2, .class_ 14), (0, u "java/io/Serializable"), (0, u "serialVersionUID"), (0, u "J")] 20

def k5m0 : Method := { name := "<init>", desc := "()V", sig := { parameters := [], returnType := none }, accessFlags := 1, code := none }
/-- java/lang/Number -/
def k5 : Class := { plain "java/lang/Number" (some 0) with
  accessFlags := 1057
  interfaces := #[4]
  cf := some (fileOf pool5 8 #[] #[{ accessFlags := 1, nameIndex := 5, descriptorIndex := 6, attributes := #[] }] 1057 2 #[13] #[{ accessFlags := 26, nameIndex := 15, descriptorIndex := 16, attributes := #[] }])
  fields := #[{ name := "serialVersionUID", type := .long, accessFlags := 26, slot := 0, constantValue := 0 }]
  methods := #[k5m0]
  instanceTypes := #[]
  staticTypes := #[.long]
  resolved := Array.replicate 37 none
  statics := none }

def pool6 : Array CpInfo := pool [(1, .class_ 2), (0, u "java/lang/Comparable"), (0, .class_ 4), (0, u "java/lang/Object")] 7

/-- java/lang/Comparable -/
def k6 : Class := { plain "java/lang/Comparable" (some 0) with
  accessFlags := 1537
  interfaces := #[]
  cf := some (fileOf pool6 1 #[] #[] 1537 3 #[] #[])
  fields := #[]
  methods := #[]
  instanceTypes := #[]
  staticTypes := #[]
  resolved := Array.replicate 12 none
  statics := none }

def pool7 : Array CpInfo := pool [(1, .class_ 2), (0, u "java/lang/constant/Constable"), (0, .class_ 4), (0, u "java/lang/Object")] 6

/-- java/lang/constant/Constable -/
def k7 : Class := { plain "java/lang/constant/Constable" (some 0) with
  accessFlags := 1537
  interfaces := #[]
  cf := some (fileOf pool7 1 #[] #[] 1537 3 #[] #[])
  fields := #[]
  methods := #[]
  instanceTypes := #[]
  staticTypes := #[]
  resolved := Array.replicate 11 none
  statics := none }

def pool8 : Array CpInfo := pool [(1, .class_ 2), (0, u "java/lang/constant/ConstantDesc"), (0, .class_ 4), (0, u "java/lang/Object")] 32

/-- java/lang/constant/ConstantDesc -/
def k8 : Class := { plain "java/lang/constant/ConstantDesc" (some 0) with
  accessFlags := 1537
  interfaces := #[]
  cf := some (fileOf pool8 1 #[] #[] 1537 3 #[] #[])
  fields := #[]
  methods := #[]
  instanceTypes := #[]
  staticTypes := #[]
  resolved := Array.replicate 37 none
  statics := none }

def pool9 : Array CpInfo := pool [(1, .class_ 2), (0, u "java/lang/Long"), (15, .class_ 20), (1, u "java/lang/Integer"), (80, u "(J)I"), (133, .class_ 237), (1, u "java/lang/Long$LongCache"), (33, .class_ 272), (0, u "java/lang/Number"), (2, u "value"), (0, u "J"), (33, u "(I)I"), (0, .methodref 18 312), (0, .nameAndType 313 310), (0, u "numberOfTrailingZeros"), (47, u "TYPE"), (0, u "Ljava/lang/Class;"), (0, .class_ 364), (0, u "java/lang/Comparable"), (0, .class_ 366), (0, u "java/lang/constant/Constable"), (0, .class_ 368), (0, u "java/lang/constant/ConstantDesc"), (0, u "MIN_VALUE"), (1, u "MAX_VALUE"), (4, u "SIZE"), (0, u "I"), (1, u "BYTES"), (1, u "serialVersionUID")] 142

def k9c0 : Code := { maxStack := 4, maxLocals := 3, code := jdk_35_method_49_code, exceptionTable := #[], attributes := #[] }
def k9m0 : Method := { name := "numberOfTrailingZeros", desc := "(J)I", sig := { parameters := [.long], returnType := some .int }, accessFlags := 9, code := some k9c0 }
/-- java/lang/Long -/
def k9 : Class := { plain "java/lang/Long" (some 5) with
  accessFlags := 49
  interfaces := #[6, 7, 8]
  cf := some (fileOf pool9 1 #[.nestMembers #[235]] #[{ accessFlags := 9, nameIndex := 313, descriptorIndex := 101, attributes := #[] }] 49 271 #[363, 365, 367] #[{ accessFlags := 25, nameIndex := 369, descriptorIndex := 276, attributes := #[] }, { accessFlags := 25, nameIndex := 371, descriptorIndex := 276, attributes := #[] }, { accessFlags := 25, nameIndex := 361, descriptorIndex := 362, attributes := #[] }, { accessFlags := 18, nameIndex := 275, descriptorIndex := 276, attributes := #[] }, { accessFlags := 25, nameIndex := 376, descriptorIndex := 377, attributes := #[] }, { accessFlags := 25, nameIndex := 379, descriptorIndex := 377, attributes := #[] }, { accessFlags := 26, nameIndex := 381, descriptorIndex := 276, attributes := #[] }])
  fields := #[{ name := "MIN_VALUE", type := .long, accessFlags := 25, slot := 0, constantValue := 0 }, { name := "MAX_VALUE", type := .long, accessFlags := 25, slot := 1, constantValue := 0 }, { name := "TYPE", type := (.object "java/lang/Class"), accessFlags := 25, slot := 2, constantValue := 0 }, { name := "value", type := .long, accessFlags := 18, slot := 0, constantValue := 0 }, { name := "SIZE", type := .int, accessFlags := 25, slot := 3, constantValue := 0 }, { name := "BYTES", type := .int, accessFlags := 25, slot := 4, constantValue := 0 }, { name := "serialVersionUID", type := .long, accessFlags := 26, slot := 5, constantValue := 0 }]
  methods := #[k9m0]
  instanceTypes := #[.long]
  staticTypes := #[.long, .long, (.object "java/lang/Class"), .int, .int, .long]
  resolved := Array.replicate 524 none
  statics := none }

def pool10 : Array CpInfo := pool [(1, .class_ 2), (0, u "java/lang/Integer"), (16, u "digits"), (0, u "[C"), (33, u "(I)I"), (30, u "DigitOnes"), (0, u "[B"), (2, u "DigitTens"), (99, .class_ 190), (0, u "java/lang/Integer$IntegerCache"), (3, u "I"), (8, .class_ 204), (0, u "java/lang/Number"), (2, u "value"), (56, .integer 65536), (37, u "TYPE"), (0, u "Ljava/lang/Class;"), (0, .class_ 305), (0, u "java/lang/Comparable"), (0, .class_ 307), (0, u "java/lang/constant/Constable"), (0, .class_ 309), (0, u "java/lang/constant/ConstantDesc"), (0, u "MIN_VALUE"), (1, u "MAX_VALUE"), (3, u "SIZE"), (1, u "BYTES"), (1, u "serialVersionUID"), (0, u "J"), (84, u "numberOfTrailingZeros")] 46

def k10c0 : Code := { maxStack := 3, maxLocals := 2, code := jdk_33_method_48_code, exceptionTable := #[], attributes := #[] }
def k10m0 : Method := { name := "numberOfTrailingZeros", desc := "(I)I", sig := { parameters := [.int], returnType := some .int }, accessFlags := 9, code := some k10c0 }
/-- java/lang/Integer -/
def k10 : Class := { plain "java/lang/Integer" (some 5) with
  accessFlags := 49
  interfaces := #[6, 7, 8]
  cf := some (fileOf pool10 1 #[.nestMembers #[189]] #[{ accessFlags := 9, nameIndex := 406, descriptorIndex := 54, attributes := #[] }] 49 203 #[304, 306, 308] #[{ accessFlags := 25, nameIndex := 310, descriptorIndex := 194, attributes := #[] }, { accessFlags := 25, nameIndex := 312, descriptorIndex := 194, attributes := #[] }, { accessFlags := 25, nameIndex := 302, descriptorIndex := 303, attributes := #[] }, { accessFlags := 24, nameIndex := 19, descriptorIndex := 20, attributes := #[] }, { accessFlags := 24, nameIndex := 89, descriptorIndex := 86, attributes := #[] }, { accessFlags := 24, nameIndex := 85, descriptorIndex := 86, attributes := #[] }, { accessFlags := 18, nameIndex := 207, descriptorIndex := 194, attributes := #[] }, { accessFlags := 25, nameIndex := 316, descriptorIndex := 194, attributes := #[] }, { accessFlags := 25, nameIndex := 318, descriptorIndex := 194, attributes := #[] }, { accessFlags := 26, nameIndex := 320, descriptorIndex := 321, attributes := #[] }])
  fields := #[{ name := "MIN_VALUE", type := .int, accessFlags := 25, slot := 0, constantValue := 0 }, { name := "MAX_VALUE", type := .int, accessFlags := 25, slot := 1, constantValue := 0 }, { name := "TYPE", type := (.object "java/lang/Class"), accessFlags := 25, slot := 2, constantValue := 0 }, { name := "digits", type := (.array .char), accessFlags := 24, slot := 3, constantValue := 0 }, { name := "DigitTens", type := (.array .byte), accessFlags := 24, slot := 4, constantValue := 0 }, { name := "DigitOnes", type := (.array .byte), accessFlags := 24, slot := 5, constantValue := 0 }, { name := "value", type := .int, accessFlags := 18, slot := 0, constantValue := 0 }, { name := "SIZE", type := .int, accessFlags := 25, slot := 6, constantValue := 0 }, { name := "BYTES", type := .int, accessFlags := 25, slot := 7, constantValue := 0 }, { name := "serialVersionUID", type := .long, accessFlags := 26, slot := 8, constantValue := 0 }]
  methods := #[k10m0]
  instanceTypes := #[.int]
  staticTypes := #[.int, .int, (.object "java/lang/Class"), (.array .char), (.array .byte), (.array .byte), .int, .int, .long]
  resolved := Array.replicate 453 none
  statics := none }

def pool11 : Array CpInfo := pool [(1, .class_ 2), (0, u "java/lang/Math"), (1, .class_ 6), (1, u "java/lang/Object"), (0, u "<init>"), (0, u "()V"), (89, .class_ 100), (1, u "java/lang/Math$RandomNumberGeneratorHolder"), (71, u "negativeZeroFloatBits"), (0, u "J"), (2, u "negativeZeroDoubleBits"), (24, u "min"), (43, u "$assertionsDisabled"), (0, u "Z"), (88, u "(II)I"), (2, u "twoToTheDoubleScaleDown"), (0, u "D"), (4, u "twoToTheDoubleScaleUp"), (9, u "E"), (3, u "PI"), (2, u "TAU"), (2, u "DEGREES_TO_RADIANS"), (0, u "RADIANS_TO_DEGREES")] 94

def k11m0 : Method := { name := "<init>", desc := "()V", sig := { parameters := [], returnType := none }, accessFlags := 2, code := none }
def k11c1 : Code := { maxStack := 2, maxLocals := 2, code := jdk_29_method_69_code, exceptionTable := #[], attributes := #[] }
def k11m1 : Method := { name := "min", desc := "(II)I", sig := { parameters := [.int, .int], returnType := some .int }, accessFlags := 9, code := some k11c1 }
/-- java/lang/Math -/
def k11 : Class := { plain "java/lang/Math" (some 0) with
  accessFlags := 49
  interfaces := #[]
  cf := some (fileOf pool11 1 #[.nestMembers #[98]] #[{ accessFlags := 2, nameIndex := 7, descriptorIndex := 8, attributes := #[] }, { accessFlags := 9, nameIndex := 201, descriptorIndex := 335, attributes := #[] }] 49 4 #[] #[{ accessFlags := 25, nameIndex := 354, descriptorIndex := 339, attributes := #[] }, { accessFlags := 25, nameIndex := 358, descriptorIndex := 339, attributes := #[] }, { accessFlags := 25, nameIndex := 361, descriptorIndex := 339, attributes := #[] }, { accessFlags := 26, nameIndex := 364, descriptorIndex := 339, attributes := #[] }, { accessFlags := 26, nameIndex := 365, descriptorIndex := 339, attributes := #[] }, { accessFlags := 26, nameIndex := 172, descriptorIndex := 173, attributes := #[] }, { accessFlags := 26, nameIndex := 176, descriptorIndex := 173, attributes := #[] }, { accessFlags := 8, nameIndex := 344, descriptorIndex := 339, attributes := #[] }, { accessFlags := 8, nameIndex := 338, descriptorIndex := 339, attributes := #[] }, { accessFlags := 4120, nameIndex := 245, descriptorIndex := 246, attributes := #[] }])
  fields := #[{ name := "E", type := .double, accessFlags := 25, slot := 0, constantValue := 0 }, { name := "PI", type := .double, accessFlags := 25, slot := 1, constantValue := 0 }, { name := "TAU", type := .double, accessFlags := 25, slot := 2, constantValue := 0 }, { name := "DEGREES_TO_RADIANS", type := .double, accessFlags := 26, slot := 3, constantValue := 0 }, { name := "RADIANS_TO_DEGREES", type := .double, accessFlags := 26, slot := 4, constantValue := 0 }, { name := "negativeZeroFloatBits", type := .long, accessFlags := 26, slot := 5, constantValue := 0 }, { name := "negativeZeroDoubleBits", type := .long, accessFlags := 26, slot := 6, constantValue := 0 }, { name := "twoToTheDoubleScaleUp", type := .double, accessFlags := 8, slot := 7, constantValue := 0 }, { name := "twoToTheDoubleScaleDown", type := .double, accessFlags := 8, slot := 8, constantValue := 0 }, { name := "$assertionsDisabled", type := .boolean, accessFlags := 4120, slot := 9, constantValue := 0 }]
  methods := #[k11m0, k11m1]
  instanceTypes := #[]
  staticTypes := #[.double, .double, .double, .double, .double, .long, .long, .double, .double, .boolean]
  resolved := Array.replicate 460 none
  statics := none }

def pool12 : Array CpInfo := pool [(1, u "java/lang/Cloneable"), (0, .class_ 1), (0, u "java/lang/Object"), (0, .class_ 3)] 3

/-- java/lang/Cloneable -/
def k12 : Class := { plain "java/lang/Cloneable" (some 0) with
  accessFlags := 1537
  interfaces := #[]
  cf := some (fileOf pool12 2 #[] #[] 1537 4 #[] #[])
  fields := #[]
  methods := #[]
  instanceTypes := #[]
  staticTypes := #[]
  resolved := Array.replicate 8 none
  statics := none }

/-- the primitive byte -/
def k13 : Class := { plain "byte" none with kind := .primitive 'B', accessFlags := 0x411 }
/-- [B -/
def k14 : Class := { plain "[B" (some 0) with kind := .array 13 .byte, interfaces := #[12, 4], accessFlags := 1041 }

/-- the primitive int -/
def k15 : Class := { plain "int" none with kind := .primitive 'I', accessFlags := 0x411 }
/-- [I -/
def k16 : Class := { plain "[I" (some 0) with kind := .array 15 .int, interfaces := #[12, 4], accessFlags := 1041 }

/-- the primitive long -/
def k17 : Class := { plain "long" none with kind := .primitive 'J', accessFlags := 0x411 }
/-- [J -/
def k18 : Class := { plain "[J" (some 0) with kind := .array 17 .long, interfaces := #[12, 4], accessFlags := 1041 }
/-- [[J -/
def k19 : Class := { plain "[[J" (some 0) with kind := .array 18 (.array .long), interfaces := #[12, 4], accessFlags := 1041 }

def heap : Heap := #[]
def classes : Array Class := #[k0, k1, k2, k3, k4, k5, k6, k7, k8, k9, k10, k11, k12, k13, k14, k15, k16, k17, k18, k19]
def interned : List (Array UInt16 × Addr) := []
def slotsUsed : Nat := 0
def theMethod : MethodId := ⟨1, 3⟩
def args0 : Array Value := #[.int 5, .int 6, .int 7, .int 8, .int 9, .int 10]
def aboutOver (below : List Frame) : State where
  vm := { classes := classes, interned := interned.toArray }
  heap := heap
  slotsUsed := slotsUsed
  threads := #[{ frames := .invoking theMethod args0 :: below }]
def below0 : List Frame := [.native { method := ⟨0, 0⟩, args := #[] }]
def about1 : State := aboutOver below0
def p0 : Program := .bare "" "" ""
def e0 : Env := launch0.env 0 0 0
theorem w_frames : about1.frames = Frame.invoking theMethod args0 :: below0 := rfl
set_option maxRecDepth 65536 in
theorem w_args : argsFit about1.vm theMethod args0 = true := by decide +kernel
set_option maxRecDepth 65536 in
theorem w_heap : heapFits about1 = true := by decide +kernel
set_option maxRecDepth 65536 in
theorem w_runnable : about1.curStatus? = some .runnable := by decide +kernel
set_option maxRecDepth 65536 in
theorem w_alone : about1.alone = true := by decide +kernel
set_option maxRecDepth 65536 in
theorem w_named : about1.methodNamed? x = some theMethod := by decide +kernel
set_option maxRecDepth 65536 in
theorem w_hears : about1.hears theMethod below0 = true := by decide +kernel
set_option maxRecDepth 65536 in
theorem w_ripe : about1.ripe theMethod args0 below0 = true := by decide +kernel
theorem w_running : about1.status = .running := rfl
set_option maxRecDepth 65536 in
theorem w_room : about1.hasRoom e0.platform room_1 = true :=
  launch0.hasRoom_least _ room_1 (by decide +kernel) (by decide +kernel) (by decide +kernel) (by decide +kernel) (by decide +kernel) (by decide +kernel)
theorem allAtoms_all (ts : List Jvm.Cond) (a : Array Jvm.Value) (st : Jvm.State) : (allAtoms ts).before a st = ts.all (fun c => c.before a st) := by
  induction ts with
  | nil => rfl
  | cons c t ih =>
    show (Jvm.Cond.and c (allAtoms t)).before a st = _
    rw [Jvm.Cond.before_and, ih, List.all_cons]
def words1 : List Jvm.Cond := Jvm.Cond.code x code maxLocals ret :: tables_1
/-- a 'code' word, met by the world's own term for the bytes: nothing is compared byte by byte -/
theorem code_word {y : MethodName} {bytes : ByteArray} {mx : Nat} {rt : Option FieldType} {a : Array Value} {s : State} {m : MethodId} {meth : Method} {c : Code} (h1 : s.methodNamed? y = some m) (h2 : s.vm.method? m = some meth) (h3 : meth.code = some c) (h4 : c.code = bytes)
    (h5 : (c.maxLocals == mx && c.exceptionTable.isEmpty && decide (c.maxStack ≤ mostOperands) && decide (meth.sig.returnType = rt) && !meth.locks && decide (parseMethodDescriptor y.desc = some meth.sig)) = true) : (Jvm.Cond.code y bytes mx rt).before a s = true := by
  simp only [Bool.and_eq_true, beq_iff_eq, Bool.not_eq_true', decide_eq_true_eq] at h5
  obtain ⟨⟨⟨⟨⟨g1, g2⟩, g3⟩, g4⟩, g5⟩, g6⟩ := h5
  simp [Cond.before, Cond.holds, Cond.value, h1, h2, h3, h4, g1, g2, g3, g4, g5, g6]
def isCode : Jvm.Cond → Bool
  | .code _ _ _ _ => true
  | _ => false
theorem all_split {L : List Jvm.Cond} {P : Jvm.Cond → Bool} (h1 : L.all (fun c => isCode c || P c) = true) (h2 : ∀ c ∈ L.filter isCode, P c = true) : L.all P = true := by
  refine List.all_eq_true.mpr fun c hc => ?_
  have h := List.all_eq_true.mp h1 c hc
  rcases Bool.eq_false_or_eq_true (isCode c) with hi | hi
  · exact h2 c (List.mem_filter.mpr ⟨hc, hi⟩)
  · simpa [hi] using h
set_option maxRecDepth 65536 in
theorem w_c0 : (Jvm.Cond.code x code maxLocals ret).before args0 about1 = true := code_word (m := ⟨1, 3⟩) (meth := k1m3) (c := k1c3) (by decide +kernel) rfl rfl rfl (by decide +kernel)
set_option maxRecDepth 65536 in
theorem w_c1 : (Jvm.Cond.code ({ cls := "com/example/prefix_scope/prefixscope/NumberSet", name := "<init>", desc := "(I)V" } : Jvm.MethodName) prog_9_method_1_code (5 : Nat) (Option.none : Option Jvm.ClassFile.FieldType)).before args0 about1 = true := code_word (m := ⟨2, 0⟩) (meth := k2m0) (c := k2c0) (by decide +kernel) rfl rfl rfl (by decide +kernel)
set_option maxRecDepth 65536 in
theorem w_c2 : (Jvm.Cond.code ({ cls := "java/lang/Object", name := "<init>", desc := "()V" } : Jvm.MethodName) object_method_1_code (1 : Nat) (Option.none : Option Jvm.ClassFile.FieldType)).before args0 about1 = true := code_word (m := ⟨0, 0⟩) (meth := k0m0) (c := k0c0) (by decide +kernel) rfl rfl rfl (by decide +kernel)
set_option maxRecDepth 65536 in
theorem w_c3 : (Jvm.Cond.code ({ cls := "com/example/prefix_scope/prefixscope/NumberSet", name := "clear", desc := "()V" } : Jvm.MethodName) prog_9_method_6_code (5 : Nat) (Option.none : Option Jvm.ClassFile.FieldType)).before args0 about1 = true := code_word (m := ⟨2, 4⟩) (meth := k2m4) (c := k2c4) (by decide +kernel) rfl rfl rfl (by decide +kernel)
set_option maxRecDepth 65536 in
theorem w_c4 : (Jvm.Cond.code ({ cls := "java/util/Arrays", name := "fill", desc := "([JJ)V" } : Jvm.MethodName) jdk_65_method_101_code (5 : Nat) (Option.none : Option Jvm.ClassFile.FieldType)).before args0 about1 = true := code_word (m := ⟨3, 1⟩) (meth := k3m1) (c := k3c1) (by decide +kernel) rfl rfl rfl (by decide +kernel)
set_option maxRecDepth 65536 in
theorem w_c5 : (Jvm.Cond.code ({ cls := "com/example/prefix_scope/prefixscope/NumberSet", name := "add", desc := "(I)V" } : Jvm.MethodName) prog_9_method_3_code (2 : Nat) (Option.none : Option Jvm.ClassFile.FieldType)).before args0 about1 = true := code_word (m := ⟨2, 1⟩) (meth := k2m1) (c := k2c1) (by decide +kernel) rfl rfl rfl (by decide +kernel)
set_option maxRecDepth 65536 in
theorem w_c6 : (Jvm.Cond.code ({ cls := "com/example/prefix_scope/prefixscope/NumberSet", name := "fill", desc := "(II)V" } : Jvm.MethodName) prog_9_method_7_code (8 : Nat) (Option.none : Option Jvm.ClassFile.FieldType)).before args0 about1 = true := code_word (m := ⟨2, 5⟩) (meth := k2m5) (c := k2c5) (by decide +kernel) rfl rfl rfl (by decide +kernel)
set_option maxRecDepth 65536 in
theorem w_c7 : (Jvm.Cond.code ({ cls := "com/example/prefix_scope/prefixscope/NumberSet", name := "remove", desc := "(I)V" } : Jvm.MethodName) prog_9_method_4_code (8 : Nat) (Option.none : Option Jvm.ClassFile.FieldType)).before args0 about1 = true := code_word (m := ⟨2, 2⟩) (meth := k2m2) (c := k2c2) (by decide +kernel) rfl rfl rfl (by decide +kernel)
set_option maxRecDepth 65536 in
theorem w_c8 : (Jvm.Cond.code ({ cls := "com/example/prefix_scope/prefixscope/NumberSet", name := "firstAbsent", desc := "(I)I" } : Jvm.MethodName) prog_9_method_5_code (6 : Nat) (Option.some Jvm.ClassFile.FieldType.int)).before args0 about1 = true := code_word (m := ⟨2, 3⟩) (meth := k2m3) (c := k2c3) (by decide +kernel) rfl rfl rfl (by decide +kernel)
set_option maxRecDepth 65536 in
theorem w_c9 : (Jvm.Cond.code ({ cls := "java/lang/Long", name := "numberOfTrailingZeros", desc := "(J)I" } : Jvm.MethodName) jdk_35_method_49_code (3 : Nat) (Option.some Jvm.ClassFile.FieldType.int)).before args0 about1 = true := code_word (m := ⟨9, 0⟩) (meth := k9m0) (c := k9c0) (by decide +kernel) rfl rfl rfl (by decide +kernel)
set_option maxRecDepth 65536 in
theorem w_c10 : (Jvm.Cond.code ({ cls := "java/lang/Integer", name := "numberOfTrailingZeros", desc := "(I)I" } : Jvm.MethodName) jdk_33_method_48_code (2 : Nat) (Option.some Jvm.ClassFile.FieldType.int)).before args0 about1 = true := code_word (m := ⟨10, 0⟩) (meth := k10m0) (c := k10c0) (by decide +kernel) rfl rfl rfl (by decide +kernel)
set_option maxRecDepth 65536 in
theorem w_c11 : (Jvm.Cond.code ({ cls := "com/example/prefix_scope/prefixscope/NumberSetRemovePinLaw", name := "ref", desc := "(IIIIII)I" } : Jvm.MethodName) method_3_code (7 : Nat) (Option.some Jvm.ClassFile.FieldType.int)).before args0 about1 = true := code_word (m := ⟨1, 2⟩) (meth := k1m2) (c := k1c2) (by decide +kernel) rfl rfl rfl (by decide +kernel)
set_option maxRecDepth 65536 in
theorem w_c12 : (Jvm.Cond.code ({ cls := "com/example/prefix_scope/prefixscope/NumberSetRemovePinLaw", name := "in", desc := "(IIIII)Z" } : Jvm.MethodName) method_2_code (5 : Nat) (Option.some Jvm.ClassFile.FieldType.boolean)).before args0 about1 = true := code_word (m := ⟨1, 1⟩) (meth := k1m1) (c := k1c1) (by decide +kernel) rfl rfl rfl (by decide +kernel)
set_option maxRecDepth 65536 in
theorem w_c13 : (Jvm.Cond.code ({ cls := "java/lang/Math", name := "min", desc := "(II)I" } : Jvm.MethodName) jdk_29_method_69_code (2 : Nat) (Option.some Jvm.ClassFile.FieldType.int)).before args0 about1 = true := code_word (m := ⟨11, 1⟩) (meth := k11m1) (c := k11c1) (by decide +kernel) rfl rfl rfl (by decide +kernel)
def codes1 : List Jvm.Cond := [Jvm.Cond.code x code maxLocals ret, Jvm.Cond.code ({ cls := "com/example/prefix_scope/prefixscope/NumberSet", name := "<init>", desc := "(I)V" } : Jvm.MethodName) prog_9_method_1_code (5 : Nat) (Option.none : Option Jvm.ClassFile.FieldType), Jvm.Cond.code ({ cls := "java/lang/Object", name := "<init>", desc := "()V" } : Jvm.MethodName) object_method_1_code (1 : Nat) (Option.none : Option Jvm.ClassFile.FieldType), Jvm.Cond.code ({ cls := "com/example/prefix_scope/prefixscope/NumberSet", name := "clear", desc := "()V" } : Jvm.MethodName) prog_9_method_6_code (5 : Nat) (Option.none : Option Jvm.ClassFile.FieldType), Jvm.Cond.code ({ cls := "java/util/Arrays", name := "fill", desc := "([JJ)V" } : Jvm.MethodName) jdk_65_method_101_code (5 : Nat) (Option.none : Option Jvm.ClassFile.FieldType), Jvm.Cond.code ({ cls := "com/example/prefix_scope/prefixscope/NumberSet", name := "add", desc := "(I)V" } : Jvm.MethodName) prog_9_method_3_code (2 : Nat) (Option.none : Option Jvm.ClassFile.FieldType), Jvm.Cond.code ({ cls := "com/example/prefix_scope/prefixscope/NumberSet", name := "fill", desc := "(II)V" } : Jvm.MethodName) prog_9_method_7_code (8 : Nat) (Option.none : Option Jvm.ClassFile.FieldType), Jvm.Cond.code ({ cls := "com/example/prefix_scope/prefixscope/NumberSet", name := "remove", desc := "(I)V" } : Jvm.MethodName) prog_9_method_4_code (8 : Nat) (Option.none : Option Jvm.ClassFile.FieldType), Jvm.Cond.code ({ cls := "com/example/prefix_scope/prefixscope/NumberSet", name := "firstAbsent", desc := "(I)I" } : Jvm.MethodName) prog_9_method_5_code (6 : Nat) (Option.some Jvm.ClassFile.FieldType.int), Jvm.Cond.code ({ cls := "java/lang/Long", name := "numberOfTrailingZeros", desc := "(J)I" } : Jvm.MethodName) jdk_35_method_49_code (3 : Nat) (Option.some Jvm.ClassFile.FieldType.int), Jvm.Cond.code ({ cls := "java/lang/Integer", name := "numberOfTrailingZeros", desc := "(I)I" } : Jvm.MethodName) jdk_33_method_48_code (2 : Nat) (Option.some Jvm.ClassFile.FieldType.int), Jvm.Cond.code ({ cls := "com/example/prefix_scope/prefixscope/NumberSetRemovePinLaw", name := "ref", desc := "(IIIIII)I" } : Jvm.MethodName) method_3_code (7 : Nat) (Option.some Jvm.ClassFile.FieldType.int), Jvm.Cond.code ({ cls := "com/example/prefix_scope/prefixscope/NumberSetRemovePinLaw", name := "in", desc := "(IIIII)Z" } : Jvm.MethodName) method_2_code (5 : Nat) (Option.some Jvm.ClassFile.FieldType.boolean), Jvm.Cond.code ({ cls := "java/lang/Math", name := "min", desc := "(II)I" } : Jvm.MethodName) jdk_29_method_69_code (2 : Nat) (Option.some Jvm.ClassFile.FieldType.int)]
set_option maxRecDepth 65536 in
theorem codes_eq : words1.filter isCode = codes1 := rfl
theorem w_codes : ∀ c ∈ words1.filter isCode, c.before args0 about1 = true := by
  rw [codes_eq]
  intro c hc
  simp only [codes1, List.mem_cons, List.not_mem_nil, or_false] at hc
  rcases hc with rfl | rfl | rfl | rfl | rfl | rfl | rfl | rfl | rfl | rfl | rfl | rfl | rfl | rfl
  · exact w_c0
  · exact w_c1
  · exact w_c2
  · exact w_c3
  · exact w_c4
  · exact w_c5
  · exact w_c6
  · exact w_c7
  · exact w_c8
  · exact w_c9
  · exact w_c10
  · exact w_c11
  · exact w_c12
  · exact w_c13
set_option maxRecDepth 65536 in
theorem w_t1 : (words1.take 24).all (fun c => isCode c || c.before args0 about1) = true := by decide +kernel
set_option maxRecDepth 65536 in
theorem w_t2 : ((words1.drop 24).take 24).all (fun c => isCode c || c.before args0 about1) = true := by decide +kernel
set_option maxRecDepth 65536 in
theorem w_t3 : ((words1.drop 24).drop 24).all (fun c => isCode c || c.before args0 about1) = true := by decide +kernel
theorem w_tables : (allAtoms (Jvm.Cond.code x code maxLocals ret :: tables_1)).before args0 about1 = true := by
  rw [allAtoms_all]
  show words1.all (fun c => c.before args0 about1) = true
  refine all_split ?_ w_codes
  rw [← List.take_append_drop 24 words1, List.all_append, w_t1, ← List.take_append_drop 24 (words1.drop 24), List.all_append, w_t2, w_t3]
  rfl
set_option maxRecDepth 65536 in
theorem w_case : (Jvm.Cond.and given_1 narrow_1).before args0 about1 = true := by decide +kernel
theorem w_applies : (headSpec (Jvm.Cond.code x code maxLocals ret :: tables_1) room_1).applies x e0.platform about1 = true :=
  (Spec.applies_iff w_frames).mpr ⟨w_running, w_runnable, w_alone, w_named, w_hears, w_ripe, w_room, w_tables⟩
theorem atStart : AtStart classFile x code maxLocals ret World_1 tables_1 room_1 Calls_1 rest_1 Pre_1 launch0 p0 e0 about1 theMethod args0 below0 :=
  ⟨lists_1, trivial, launch0.admits_env _ _ _, launch0.least_env, fairChoices_fair.cas, fairChoices_fair.clock, w_frames, w_args, w_heap, w_applies, trivial, trivial, w_case⟩
end start1
theorem witness_1 : WitnessClaimed_1 := ⟨start1.p0, start1.e0, start1.about1, start1.theMethod, start1.args0, start1.below0, start1.atStart⟩
end Jvm.Pilot.@@N@@
