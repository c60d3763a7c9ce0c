import JvmDerived
import JvmDerived.Pilot.@@N@@Statement
import JvmDerived.Pilot.@@N@@Code
set_option linter.unusedVariables false
set_option linter.unusedSimpArgs false
namespace Jvm.Pilot.@@N@@
open Jvm Jvm.ClassFile Sem Op Lib Jvm.Free Jvm.Stand Jvm.LawKit Jvm.RoadKit Bundle Jvm.Pilot.@@N@@.Jvm.D
/-! own_kit: a walk as 'what is left to do' (Go), contracts (Con), calls and returns in that form -/
/-- from F the run comes to an end of which P holds -/
def Go (tb : Tables) (e : Env) (below : List Frame) (P : Outcome → State → Prop) (F : State) : Prop :=
  ∃ s₂ o, Steps tb e below F s₂ ∧ s₂.status = .running ∧ Ended s₂ below o ∧ P o s₂
theorem Go.step {tb : Tables} {e : Env} {below : List Frame} {P : Outcome → State → Prop} {A B : State} (h : ∀ t, Steps tb e below B t → Steps tb e below A t) (k : Go tb e below P B) : Go tb e below P A := by
  obtain ⟨s₂, o, h1, h2, h3, h4⟩ := k
  exact ⟨s₂, o, h _ h1, h2, h3, h4⟩
theorem Go.via {tb : Tables} {e : Env} {below : List Frame} {P : Outcome → State → Prop} {A B : State} (h : Steps tb e below A B) (k : Go tb e below P B) : Go tb e below P A :=
  Go.step (fun t q => h.trans q) k
/-- how a walk ends: it returns v, Q holds of v, the heap and the places written; at most C cells and S slots were made -/
def EndsAs (s : State) (C S : Nat) (Q : Option Value → Heap → List Loc → Prop) (o : Outcome) (U : State) : Prop :=
  ∃ v L, o = .returned v ∧ Q v U.heap L ∧ FrameEnd s o U L C S
/-- the contract of a body at arguments 'as' and heap h0 -/
abbrev Con (l : Launch) (Z : State) (y : MethodName) (bytes : ByteArray) (mx : Nat) (ret : Option FieldType) (ws : List Jvm.Cond) (rm : Room) (as : Array Value) (h0 : Heap) (Q : Option Value → Heap → List Loc → Prop) : Prop :=
  MetFree l y (head1 (Jvm.Cond.code y bytes mx ret :: ws) rm) (fun a U => a = as ∧ Z.Warmed39 U.vm ∧ U.heap = h0) (fun _ _ _ _ _ => True) (fun _ U o U' => ∃ v L, o = .returned v ∧ Q v U'.heap L ∧ FrameEnd U o U' L rm.cells rm.slots)
theorem Con.of {l : Launch} {Z : State} {y : MethodName} {bytes : ByteArray} {mx : Nat} {ret : Option FieldType} {ws : List Jvm.Cond} {rm : Room} {as : Array Value} {h0 : Heap} {Q : Option Value → Heap → List Loc → Prop} (hpl : plainFor y = true)
    (body : ∀ (p : Program) (e : Env) (s : State) (m : MethodId) (below : List Frame) (meth : Method) (c : Code) (s₁ : State), Z.Warmed39 s.vm → p.tables.exec = Jvm.exec → c.code = bytes → c.maxLocals = mx → s.vm.findClass y.cls = some m.cls → meth.sig.returnType = ret → meth.locks = false → meth.name = y.name →
      Stand p l e rm s m as below meth c s₁ [] 0 0 → s₁.heap = h0 → Go p.tables e below (EndsAs s rm.cells rm.slots Q) (s₁.setTop (entryFrame m as mx))) :
    Con l Z y bytes mx ret ws rm as h0 Q := by
  refine MetFree.of_bodySF hpl hisR ?_
  intro p e s m args below meth c s₁ Bd hml0 hP hK
  obtain ⟨rfl, hZ, hh⟩ := hP
  exact body p e s m below meth c s₁ hZ Bd.exec Bd.bytes hml0 (findClass_of_methodNamed Bd.named) Bd.returns Bd.notSynchronized (name_of_methodNamed Bd.named Bd.method).1 (Stand.of_body Bd) (by rw [← hh, Bd.state]; rfl)
section Kit
variable {p : Program} {l : Launch} {e : Env} {R : Room} {s : State} {m : MethodId} {args : Array Value} {below : List Frame} {meth : Method} {c : Code} {T : State} {locs : List Loc} {cells slots : Nat} {Z : State} {a0 : Array Value} {h : Heap}
theorem leafO (X : Stand p l e R s m args below meth c T locs cells slots) (hx : p.tables.exec = Jvm.exec) {t : FieldType} (hret : meth.sig.returnType = some t) (hlk : meth.locks = false) {pc : Nat} {Ls : Array Slot} {w : Value} {i : Instr} {rest : List Value} (hn : narrow t w = w)
    (hi : (i = .ireturn ∧ (t = .int ∨ t = .boolean ∨ t = .byte ∨ t = .char ∨ t = .short) ∧ ∃ z, w = .int z) ∨ (i = .lreturn ∧ t = .long ∧ ∃ z, w = .long z) ∨ (i = .dreturn ∧ t = .double ∧ ∃ z, w = .double z) ∨ (i = .freturn ∧ t = .float ∧ ∃ z, w = .float z) ∨ (i = .areturn ∧ t.isReference = true ∧ w.isRef = true))
    (hd : decode c.code pc = .ok (i, 1)) {Q : Option Value → Heap → List Loc → Prop} {C S : Nat} (hQ : Q (some w) T.heap locs) (hC : cells ≤ C) (hS : slots ≤ S) :
    Go p.tables e below (EndsAs s C S Q) (T.setTop (mkF m pc Ls (w :: rest))) := by
  obtain ⟨fs, hr, hrun, hended, hW, hsame⟩ := X.leave (v := some w) (fun h => by rw [hret] at h; cases h) hlk
  exact ⟨_, _, retOut X hx hret hn hi hd hr, hrun, hended, _, _, rfl, hQ, ⟨_, rfl⟩, hW, hsame.mono hC hS⟩
theorem leafI (X : Stand p l e R s m args below meth c T locs cells slots) (hx : p.tables.exec = Jvm.exec) (hret : meth.sig.returnType = some .int) (hlk : meth.locks = false) {pc : Nat} {Ls : Array Slot} {z : Int32} {rest : List Value}
    (hd : decode c.code pc = .ok (.ireturn, 1)) {Q : Option Value → Heap → List Loc → Prop} {C S : Nat} (hQ : Q (some (.int z)) T.heap locs) (hC : cells ≤ C) (hS : slots ≤ S) :
    Go p.tables e below (EndsAs s C S Q) (T.setTop (mkF m pc Ls (.int z :: rest))) :=
  leafO X hx hret hlk rfl (Or.inl ⟨rfl, Or.inl rfl, _, rfl⟩) hd hQ hC hS
theorem leafJ (X : Stand p l e R s m args below meth c T locs cells slots) (hx : p.tables.exec = Jvm.exec) (hret : meth.sig.returnType = some .long) (hlk : meth.locks = false) {pc : Nat} {Ls : Array Slot} {z : Int64} {rest : List Value}
    (hd : decode c.code pc = .ok (.lreturn, 1)) {Q : Option Value → Heap → List Loc → Prop} {C S : Nat} (hQ : Q (some (.long z)) T.heap locs) (hC : cells ≤ C) (hS : slots ≤ S) :
    Go p.tables e below (EndsAs s C S Q) (T.setTop (mkF m pc Ls (.long z :: rest))) :=
  leafO X hx hret hlk rfl (Or.inr (Or.inl ⟨rfl, rfl, _, rfl⟩)) hd hQ hC hS
theorem leafA (X : Stand p l e R s m args below meth c T locs cells slots) (hx : p.tables.exec = Jvm.exec) {t : FieldType} (hret : meth.sig.returnType = some t) (ht : t.isReference = true) (hlk : meth.locks = false) {pc : Nat} {Ls : Array Slot} {w : Value} {rest : List Value} (hw : w.isRef = true) (hn : narrow t w = w)
    (hd : decode c.code pc = .ok (.areturn, 1)) {Q : Option Value → Heap → List Loc → Prop} {C S : Nat} (hQ : Q (some w) T.heap locs) (hC : cells ≤ C) (hS : slots ≤ S) :
    Go p.tables e below (EndsAs s C S Q) (T.setTop (mkF m pc Ls (w :: rest))) :=
  leafO X hx hret hlk hn (Or.inr (Or.inr (Or.inr (Or.inr ⟨rfl, ht, hw⟩)))) hd hQ hC hS
theorem leafN (X : Stand p l e R s m args below meth c T locs cells slots) (hx : p.tables.exec = Jvm.exec) {t : FieldType} (hret : meth.sig.returnType = some t) (ht : t = .boolean ∨ t = .byte ∨ t = .char ∨ t = .short) (hlk : meth.locks = false) {pc : Nat} {Ls : Array Slot} {z w : Int32} {rest : List Value} (hw : nar t z = w)
    (hd : decode c.code pc = .ok (.ireturn, 1)) {Q : Option Value → Heap → List Loc → Prop} {C S : Nat} (hQ : Q (some (.int w)) T.heap locs) (hC : cells ≤ C) (hS : slots ≤ S) :
    Go p.tables e below (EndsAs s C S Q) (T.setTop (mkF m pc Ls (.int z :: rest))) := by
  subst hw
  obtain ⟨fs, hr, hrun, hended, hW, hsame⟩ := X.leave (v := some (.int (nar t z))) (fun h => by rw [hret] at h; cases h) hlk
  exact ⟨_, _, retN X hx hret ht hd hr, hrun, hended, _, _, rfl, hQ, ⟨_, rfl⟩, hW, hsame.mono hC hS⟩
theorem leafV (X : Stand p l e R s m args below meth c T locs cells slots) (hx : p.tables.exec = Jvm.exec) (hret : meth.sig.returnType = none) (hlk : meth.locks = false) {pc : Nat} {Ls : Array Slot}
    (hd : decode c.code pc = .ok (.return_, 1)) {Q : Option Value → Heap → List Loc → Prop} {C S : Nat} (hQ : Q none T.heap locs) (hC : cells ≤ C) (hS : slots ≤ S) :
    Go p.tables e below (EndsAs s C S Q) (T.setTop (mkF m pc Ls [])) := by
  obtain ⟨fs, hr, hrun, hended, hW, hsame⟩ := X.leave (v := none) (fun _ => rfl) hlk
  exact ⟨_, _, X.returnOut hx hret hd hr, hrun, hended, _, _, rfl, hQ, ⟨_, rfl⟩, hW, hsame.mono hC hS⟩
theorem goS (X : Stand p l e R s m args below meth c T locs cells slots) (hx : p.tables.exec = Jvm.exec) (hZ : Z.Warmed39 s.vm) {own : String} {index : Nat} {y : MethodName} {bytes : ByteArray} {maxL : Nat} {ret : Option FieldType} (hown : s.vm.findClass own = some m.cls)
    (w1 : (Jvm.Cond.methodLink own index y).before a0 Z = true) (w2 : (Jvm.Cond.static y).before a0 Z = true) (w3 : (Jvm.Cond.initialized y.cls).before a0 Z = true) (w4 : (Jvm.Cond.code y bytes maxL ret).before a0 Z = true)
    (hy : y.cls ≠ "java/lang/invoke/MethodHandle" ∧ y.cls ≠ "java/lang/invoke/VarHandle") {rm : Room} {as : Array Value} {Qc : Option Value → Heap → List Loc → Prop} (hM : Con l Z y bytes maxL ret [] rm as h Qc) (eT : T.heap = h)
    {pc : Nat} {Ls : Array Slot} {st : List Value} (hsize : Ls.size = c.maxLocals) (argsL rest : List Value) (has : argsL.toArray = as) {ps : List FieldType} {r : Option FieldType} (hpd : parseMethodDescriptor y.desc = some ⟨ps, r⟩) (hlen : argsL.length = ps.length) (hst : st = argsL.reverse ++ rest)
    (W : Nat) (hW : (rest.map fun v => v.category).sum = W) (hd : decode c.code pc = .ok (.invokestatic index, 3)) (hf : rm.frames + 1 ≤ R.frames) (hl : W + (maxL + 11) + rm.locals ≤ R.locals) (hc : cells + rm.cells ≤ R.cells) (hs : slots + rm.slots ≤ R.slots) {P : Outcome → State → Prop}
    (k : ∀ (T' : State) (L : List Loc) (v : Option Value), Qc v T'.heap L → Stand p l e R s m args below meth c T' (locs ++ L) (cells + rm.cells) (slots + rm.slots) → Go p.tables e below P (T'.setTop (mkF m (pc + 3) Ls (v.toList ++ rest)))) :
    Go p.tables e below P (T.setTop (mkF m pc Ls st)) := by
  subst hst
  obtain ⟨v, _, ⟨T', L', k', n'⟩, -, X', ⟨L, hQ, q1, q2, q3⟩, st⟩ := Jvm.LawKit.callS X hx (y := y) hown (mvT hZ w1) (mvT hZ w2) (mvT hZ w3) (mvT hZ w4) hy (backOf (W := W) hM hZ w4 w3 hf hl) (g := mkF m pc Ls (argsL.reverse ++ rest)) rfl hsize (argsL := argsL) (rest := rest) (lenOf hpd hlen) rfl (by show 2 * 0 + _ ≤ _; omega) hd (fun _ _ => ⟨has, eT, hc, hs⟩)
  dsimp only [Pt.U, Pt.locs, Pt.cells, Pt.slots] at X' q1 q2 q3 st hQ
  subst q1 q2 q3
  exact Go.step st (k T' L v hQ X')
theorem goI (X : Stand p l e R s m args below meth c T locs cells slots) (hx : p.tables.exec = Jvm.exec) (hZ : Z.Warmed39 s.vm) {own : String} {index : Nat} {y : MethodName} {bytes : ByteArray} {maxL : Nat} (hy1 : y.name = "<init>") (hown : s.vm.findClass own = some m.cls)
    (w1 : (Jvm.Cond.methodLink own index y).before a0 Z = true) (w2 : (Jvm.Cond.instanceMethod y).before a0 Z = true) (w3 : (Jvm.Cond.initialized y.cls).before a0 Z = true) (w4 : (Jvm.Cond.code y bytes maxL none).before a0 Z = true)
    (hy : y.cls ≠ "java/lang/invoke/MethodHandle" ∧ y.cls ≠ "java/lang/invoke/VarHandle") {rm : Room} {as : Array Value} {Qc : Option Value → Heap → List Loc → Prop} (hM : Con l Z y bytes maxL none [] rm as h Qc) (eT : T.heap = h)
    {pc : Nat} {Ls : Array Slot} {st : List Value} (hsize : Ls.size = c.maxLocals) (a : Addr) (argsL rest : List Value) (has : (Value.ref a :: argsL).toArray = as) {ps : List FieldType} {r : Option FieldType} (hpd : parseMethodDescriptor y.desc = some ⟨ps, r⟩) (hlen : argsL.length = ps.length) (hst : st = argsL.reverse ++ .ref a :: rest)
    (W : Nat) (hW : (rest.map fun v => v.category).sum = W) (hd : decode c.code pc = .ok (.invokespecial index, 3)) (hf : rm.frames + 1 ≤ R.frames) (hl : W + (maxL + 11) + rm.locals ≤ R.locals) (hc : cells + rm.cells ≤ R.cells) (hs : slots + rm.slots ≤ R.slots) {P : Outcome → State → Prop}
    (k : ∀ (T' : State) (L : List Loc) (v : Option Value), Qc v T'.heap L → Stand p l e R s m args below meth c T' (locs ++ L) (cells + rm.cells) (slots + rm.slots) → Go p.tables e below P (T'.setTop (mkF m (pc + 3) Ls (v.toList ++ rest)))) :
    Go p.tables e below P (T.setTop (mkF m pc Ls st)) := by
  subst hst
  obtain ⟨v, _, ⟨T', L', k', n'⟩, -, X', ⟨L, hQ, q1, q2, q3⟩, st⟩ := X.specialBack hx (y := y) hy1 hown (mvT hZ w1) (mvT hZ w2) (mvT hZ w4) hy (backOf (W := W) hM hZ w4 w3 hf hl) (g := mkF m pc Ls (argsL.reverse ++ .ref a :: rest)) rfl hsize (Steps.refl _) (a := a) (argsL := argsL) (rest := rest) (lenOf hpd hlen) rfl (by show 2 * 0 + _ ≤ _; omega) hd (fun _ _ => ⟨has, eT, hc, hs⟩)
  dsimp only [Pt.U, Pt.locs, Pt.cells, Pt.slots] at X' q1 q2 q3 st hQ
  subst q1 q2 q3
  exact Go.via st (k T' L v hQ X')
theorem goV (X : Stand p l e R s m args below meth c T locs cells slots) (hx : p.tables.exec = Jvm.exec) (hZ : Z.Warmed39 s.vm) {own C : String} {index : Nat} {y z : MethodName} {bytes : ByteArray} {maxL : Nat} {ret : Option FieldType} (hown : s.vm.findClass own = some m.cls)
    (w1 : (Jvm.Cond.methodLink own index y).before a0 Z = true) (w2 : (Jvm.Cond.declares y).before a0 Z = true) (hnf : NotFace s y) (w5 : (Jvm.Cond.selects C y z).before a0 Z = true) (w6 : (Jvm.Cond.instanceMethod z).before a0 Z = true) (w3 : (Jvm.Cond.initialized z.cls).before a0 Z = true) (w4 : (Jvm.Cond.code z bytes maxL ret).before a0 Z = true)
    (hy : y.cls ≠ "java/lang/invoke/MethodHandle" ∧ y.cls ≠ "java/lang/invoke/VarHandle") {rm : Room} {as : Array Value} {Qc : Option Value → Heap → List Loc → Prop} (hM : Con l Z z bytes maxL ret [] rm as h Qc) (eT : T.heap = h)
    {a : Addr} (E : Exa Z h a C) {pc : Nat} {Ls : Array Slot} {st : List Value} (hsize : Ls.size = c.maxLocals) (argsL rest : List Value) (has : (Value.ref a :: argsL).toArray = as) {ps : List FieldType} {r : Option FieldType} (hpd : parseMethodDescriptor y.desc = some ⟨ps, r⟩) (hlen : argsL.length = ps.length) (hst : st = argsL.reverse ++ .ref a :: rest)
    (W : Nat) (hW : (rest.map fun v => v.category).sum = W) (hd : decode c.code pc = .ok (.invokevirtual index, 3)) (hf : rm.frames + 1 ≤ R.frames) (hl : W + (maxL + 11) + rm.locals ≤ R.locals) (hc : cells + rm.cells ≤ R.cells) (hs : slots + rm.slots ≤ R.slots) {P : Outcome → State → Prop}
    (k : ∀ (T' : State) (L : List Loc) (v : Option Value), Qc v T'.heap L → Stand p l e R s m args below meth c T' (locs ++ L) (cells + rm.cells) (slots + rm.slots) → Go p.tables e below P (T'.setTop (mkF m (pc + 3) Ls (v.toList ++ rest)))) :
    Go p.tables e below P (T.setTop (mkF m pc Ls st)) := by
  subst hst
  obtain ⟨cq, kq, qa, qb, qc⟩ := isOf hZ eT E
  obtain ⟨v, _, ⟨T', L', k', n'⟩, -, X', ⟨L, hQ, q1, q2, q3⟩, st⟩ := X.virtualBack hx (y := y) (z := z) hown (mvT hZ w1) (mvT hZ w2) hnf (mvT hZ w5) (mvT hZ w6) hy (backOf (W := W) hM hZ w4 w3 hf hl) qa qc (g := mkF m pc Ls (argsL.reverse ++ .ref a :: rest)) rfl hsize (Steps.refl _) (argsL := argsL) (rest := rest) (lenOf hpd hlen) rfl (by show 2 * 0 + _ ≤ _; omega) hd (fun _ _ => ⟨has, eT, hc, hs⟩)
  dsimp only [Pt.U, Pt.locs, Pt.cells, Pt.slots] at X' q1 q2 q3 st hQ
  subst q1 q2 q3
  exact Go.via st (k T' L v hQ X')
end Kit
/-! plain facts: naturals as ints -/
theorem own_i {n : Nat} (h : n < 2147483648) : (Int32.ofNat n).toInt = n := Int32.toInt_ofNat_of_lt (by omega)
theorem own_nat (x : Int32) (h0 : 0 ≤ x.toInt) : ∃ n : Nat, n < 2147483648 ∧ (n : Int) = x.toInt ∧ x = Int32.ofNat n := by
  have l := x.toInt_lt
  refine ⟨x.toInt.toNat, by omega, by omega, ?_⟩
  apply Int32.toInt_inj.mp
  rw [own_i (by omega)]
  omega
theorem own_lt {i n : Nat} (hi : i < 2147483648) (hn : n < 2147483648) : Int32.ofNat i < Int32.ofNat n ↔ i < n := by
  rw [Int32.lt_iff_toInt_lt, own_i hi, own_i hn]; omega
theorem own_eq {i n : Nat} (hi : i < 2147483648) (hn : n < 2147483648) : Int32.ofNat i = Int32.ofNat n ↔ i = n := by
  rw [← Int32.toInt_inj, own_i hi, own_i hn]; omega
theorem own_clamp {n : Nat} (h : n < 2147483648) : (Int32.ofNat n).toNatClampNeg = n := by
  rw [Int32.toNatClampNeg, own_i h]; rfl
theorem own_nn {n : Nat} (h : n < 2147483648) : ¬ Int32.ofNat n < 0 := by
  rw [Int32.lt_iff_toInt_lt, own_i h, show (0 : Int32).toInt = 0 from rfl]; omega
theorem own_in {i sz : Nat} (h : i < sz) (hi : i < 2147483648) : ¬ (Int32.ofNat i < 0 ∨ sz ≤ (Int32.ofNat i).toNatClampNeg) := by
  rintro (q | q)
  · exact own_nn hi q
  · rw [own_clamp hi] at q; omega
theorem own_one (i : Nat) : Int32.ofNat i + (1 : Int32) = Int32.ofNat (i + 1) := (Int32.ofNat_add i 1).symm
theorem own_shr6 {n : Nat} (h : n < 2147483648) : ((Int32.ofNat n).toUInt32 >>> ((6 : Int32) &&& 31).toUInt32).toInt32 = Int32.ofNat (n / 64) := by
  apply Int32.toInt_inj.mp
  rw [c_iushr (Int32.ofNat n) 6 6 (by decide) (by decide), own_i h, own_i (by omega), show ((2 ^ 6 : Nat) : Int) = 64 from rfl]
  omega
theorem own_shl6 {n : Nat} (h : n < 16777216) : (Int32.ofNat n) <<< ((6 : Int32) &&& 31) = Int32.ofNat (64 * n) := by
  apply Int32.toInt_inj.mp
  have h1 := c_ishl (Int32.ofNat n) 6 6 (by decide)
  rw [own_i (by omega), show ((2 ^ 6 : Nat) : Int) = 64 from rfl] at h1
  have l1 := ((Int32.ofNat n) <<< ((6 : Int32) &&& 31)).toInt_lt; have l2 := ((Int32.ofNat n) <<< ((6 : Int32) &&& 31)).le_toInt
  rw [own_i (by omega)]
  omega
theorem own_irem (x y : Int32) : x - (x / y) * y = x % y := by
  apply Int32.toInt_inj.mp
  have h1 := (x % y).le_toInt
  have h2 := (x % y).toInt_lt
  have e : (x - (x / y) * y).toInt = ((x % y).toInt).bmod (2 ^ 32) := by
    rw [Int32.toInt_sub, Int32.toInt_mul, Int32.toInt_div, Int32.toInt_mod, Int.tmod_def, Int.bmod_mul_bmod, Int.sub_bmod_bmod, Int.mul_comm y.toInt]
  rw [e]
  exact Int.bmod_eq_of_le_mul_two (by omega) (by omega)
theorem own_mod (x : Int32) (h0 : 0 ≤ x.toInt) (K : Nat) (hK : 0 < K) (hk : K < 2147483648) : ∃ n : Nat, n < K ∧ x - (x / Int32.ofNat K) * Int32.ofNat K = Int32.ofNat n := by
  rw [own_irem]
  have h2 := (c_irem x (Int32.ofNat K) K (own_i hk)).1 h0
  have h4 := Int.emod_nonneg x.toInt (show (K : Int) ≠ 0 by omega)
  have h5 := Int.emod_lt_of_pos x.toInt (show (0 : Int) < K by omega)
  obtain ⟨n, n1, n2, n3⟩ := own_nat (x % Int32.ofNat K) (by omega)
  exact ⟨n, by omega, n3⟩
theorem own_max (x : Int32) : 0 ≤ (x &&& (2147483647 : Int32)).toInt := (c_andS x 2147483647).2.2 (by decide)
theorem own_nz {K : Nat} (h : 0 < K) (hk : K < 2147483648) : Int32.ofNat K ≠ 0 := fun q => by
  have := (own_eq (i := K) (n := 0) hk (by omega)).mp q
  omega

/-! own_kit: a private instance method by its contract -/
theorem own_sel {Z s : State} {a0 args : Array Value} {y x : MethodName} (hZ : Z.Warmed39 s.vm) (w5 : (Jvm.Cond.selects y.cls x x).before a0 Z = true) (w6 : (Jvm.Cond.instanceMethod y).before a0 Z = true) (w8 : (Jvm.Cond.privateMethod y).before a0 Z = true)
    (hx : x.cls = y.cls) (hy : y.cls ≠ "java/lang/invoke/MethodHandle" ∧ y.cls ≠ "java/lang/invoke/VarHandle") : (Jvm.Cond.selects y.cls y y).before args s = true := by
  obtain ⟨c2, r2, m2, q1, q2, q3, q4, kP, hkP, hkPi⟩ := Cond.selects_spec (mvT (args := args) hZ w5)
  have q5 := findClass_of_methodNamed q3
  rw [hx] at q5
  cases q1.symm.trans q5
  exact selects_self_of_private q1 hkP hkPi (Cond.privateMethod_at (mvP hZ w8 (args := args))) (mvT hZ w6) hy
section Kit3
variable {p : Program} {l : Launch} {e : Env} {R : Room} {s : State} {m : MethodId} {args : Array Value} {below : List Frame} {meth : Method} {c : Code} {T : State} {locs : List Loc} {cells slots : Nat} {Z : State} {a0 : Array Value} {h : Heap}
theorem goP (X : Stand p l e R s m args below meth c T locs cells slots) (hx : p.tables.exec = Jvm.exec) (hZ : Z.Warmed39 s.vm) {own : String} {index : Nat} {y : MethodName} {bytes : ByteArray} {maxL : Nat} {ret : Option FieldType} (hown : s.vm.findClass own = some m.cls)
    (w1 : (Jvm.Cond.methodLink own index y).before a0 Z = true) (hsel : (Jvm.Cond.selects y.cls y y).before args s = true) (w6 : (Jvm.Cond.instanceMethod y).before a0 Z = true) (w8 : (Jvm.Cond.privateMethod y).before a0 Z = true) (w3 : (Jvm.Cond.initialized y.cls).before a0 Z = true) (w4 : (Jvm.Cond.code y bytes maxL ret).before a0 Z = true)
    (hy : y.cls ≠ "java/lang/invoke/MethodHandle" ∧ y.cls ≠ "java/lang/invoke/VarHandle") {rm : Room} {as : Array Value} {Qc : Option Value → Heap → List Loc → Prop} (hM : Con l Z y bytes maxL ret [] rm as h Qc) (eT : T.heap = h)
    {a : Addr} {C : String} (E : Exa Z h a C) {pc : Nat} {Ls : Array Slot} {st : List Value} (hsize : Ls.size = c.maxLocals) (argsL rest : List Value) (has : (Value.ref a :: argsL).toArray = as) {ps : List FieldType} {r : Option FieldType} (hpd : parseMethodDescriptor y.desc = some ⟨ps, r⟩) (hlen : argsL.length = ps.length) (hst : st = argsL.reverse ++ .ref a :: rest)
    (W : Nat) (hW : (rest.map fun v => v.category).sum = W) (hd : decode c.code pc = .ok (.invokevirtual index, 3)) (hf : rm.frames + 1 ≤ R.frames) (hl : W + (maxL + 11) + rm.locals ≤ R.locals) (hc : cells + rm.cells ≤ R.cells) (hs : slots + rm.slots ≤ R.slots) {P : Outcome → State → Prop}
    (k : ∀ (T' : State) (L : List Loc) (v : Option Value), Qc v T'.heap L → Stand p l e R s m args below meth c T' (locs ++ L) (cells + rm.cells) (slots + rm.slots) → Go p.tables e below P (T'.setTop (mkF m (pc + 3) Ls (v.toList ++ rest)))) :
    Go p.tables e below P (T.setTop (mkF m pc Ls st)) := by
  subst hst
  obtain ⟨cell, kk, q1, q2, q3, q4, -⟩ := E
  obtain ⟨v, _, ⟨T', L', k', n'⟩, -, X', ⟨L, hQ, q1, q2, q3⟩, st⟩ := X.privateBack hx (y := y) hown (mvT hZ w1) (mvT hZ w6) hsel (Cond.privateMethod_at (mvP hZ w8 (args := #[]))) (mvT hZ w4) hy (backOf (W := W) hM hZ w4 w3 hf hl) (g := mkF m pc Ls (argsL.reverse ++ .ref a :: rest)) rfl hsize (Steps.refl _) (a := a) (by rw [eT]; exact q1) (fun z h => by rw [h] at q4; cases q4) (argsL := argsL) (rest := rest) (lenOf hpd hlen) rfl (by show 2 * 0 + _ ≤ _; omega) hd (fun _ _ => ⟨has, eT, hc, hs⟩)
  dsimp only [Pt.U, Pt.locs, Pt.cells, Pt.slots] at X' q1 q2 q3 st hQ
  subst q1 q2 q3
  exact Go.via st (k T' L v hQ X')
end Kit3


/-! arrays of bytes: their length and (where it is told) their first places -/
theorem Arv.cut {Z : State} {h : Heap} {a : Addr} {k : ClassId} {ty : FieldType} {z : Int32} {vs vs' : List Value} {d d' : Value} (F : Arv Z h a k ty z vs d) (q : ∀ i, i < z.toNatClampNeg → vs'.getD i d' = vs.getD i d) : Arv Z h a k ty z vs' d' := by
  obtain ⟨c, A, r1, r2, r3, H, G⟩ := F
  exact ⟨c, A, r1, r2, r3, fun i hi => by rw [q i (by rw [← r2]; exact hi)]; exact H i hi, fun i hi => by rw [q i (by rw [← r2]; exact hi)]; exact G i hi⟩
def Bv (Z : State) (h : Heap) (a : Addr) (n : Nat) (vs : List Value) : Prop := (∃ k, Arv Z h a k .byte (Int32.ofNat n) vs (.int 0)) ∧ vs.length = n
def Ba (Z : State) (h : Heap) (a : Addr) (n : Nat) : Prop := ∃ vs, Bv Z h a n vs
theorem Bv.keep {Z : State} {h h' : Heap} {a : Addr} {n : Nat} {vs : List Value} {ws : List Addr} (B : Bv Z h a n vs) (K : Keep h h' ws) (q : a ∉ ws) : Bv Z h' a n vs := by obtain ⟨⟨k, A⟩, l⟩ := B; exact ⟨⟨k, A.keep K q⟩, l⟩
theorem Ba.keep {Z : State} {h h' : Heap} {a : Addr} {n : Nat} {ws : List Addr} (B : Ba Z h a n) (K : Keep h h' ws) (q : a ∉ ws) : Ba Z h' a n := by obtain ⟨vs, B⟩ := B; exact ⟨vs, B.keep K q⟩
theorem Bv.lt {Z : State} {h : Heap} {a : Addr} {n : Nat} {vs : List Value} (B : Bv Z h a n vs) : a < h.size := by obtain ⟨⟨k, A⟩, l⟩ := B; exact A.lt
theorem Bv.fresh {Z : State} {h : Heap} {a : Addr} {n : Nat} {k : ClassId} (A : Arr Z h a (newA k .byte (Int32.ofNat n)) .byte) (hn : n < 2147483648) : Bv Z h a n (List.replicate n (.int 0)) := by
  refine ⟨⟨k, Arv.cut (Arv.new A (own_nn hn)) fun i hi => ?_⟩, List.length_replicate⟩
  simp only [List.getD_eq_getElem?_getD, List.getElem?_replicate]
  split <;> rfl
theorem Bv.set {Z : State} {h h' : Heap} {a : Addr} {n i : Nat} {vs : List Value} {cl : Cell} {k : ClassId} {v : Int32} (hn : n < 2147483648) (hi : i < n) (A : Arr Z h a cl .byte) (q1 : cl.cls = k) (S : cl.slots.size = (Int32.ofNat n).toNatClampNeg) (q3 : ¬ Int32.ofNat n < 0) (H : Has cl vs (.int 0)) (G : ∀ i, i < cl.slots.size → fits .byte (vs.getD i (.int 0)) = true) (l : vs.length = n) (W : Wr h h' a (Int32.ofNat i).toNatClampNeg (.int (nar .byte v))) : Bv Z h' a n (vs.set i (.int (nar .byte v))) := by
  refine ⟨⟨k, Arv.set A q1 S q3 H G (fits_nar_byte v) W i (own_clamp (by omega)) (by omega)⟩, by rw [List.length_set]; exact l⟩
theorem own_sub {a b : Nat} (h : b ≤ a) (ha : a < 2147483648) : Int32.ofNat a - Int32.ofNat b = Int32.ofNat (a - b) := by
  apply Int32.toInt_inj.mp
  have q := c_isub (Int32.ofNat a) (Int32.ofNat b)
  rw [own_i ha, own_i (by omega)] at q
  have l1 := (Int32.ofNat a - Int32.ofNat b).toInt_lt; have l2 := (Int32.ofNat a - Int32.ofNat b).le_toInt
  rw [own_i (by omega)]; omega
theorem own_add (a b : Nat) : Int32.ofNat a + Int32.ofNat b = Int32.ofNat (a + b) := (Int32.ofNat_add a b).symm
def own_minI (a b : Int32) : Int32 := if b < a then b else a
def own_maxL (a b : Int64) : Int64 := if a < b then b else a
def own_minL (a b : Int64) : Int64 := if b < a then b else a
theorem own_minN {x k : Nat} (hx : x < 2147483648) (hk : k < 2147483648) : own_minI (Int32.ofNat x) (Int32.ofNat k) = Int32.ofNat (min x k) := by
  rw [own_minI]
  by_cases q : k < x
  · rw [if_pos ((own_lt hk hx).mpr q), Nat.min_eq_right (by omega)]
  · rw [if_neg (fun z => q ((own_lt hk hx).mp z)), Nat.min_eq_left (by omega)]
theorem own_grow {n : Nat} (h1 : 64 < n) (h2 : n ≤ 70000) : (own_minL (own_maxL ((2 : Int64) * (Int32.ofNat 64).toInt64) (((Int32.ofNat 0).toInt64 + (Int32.ofNat n).toInt64) + (Int32.ofNat 64).toInt64)) (2147483639 : Int64)).toInt32 = Int32.ofNat (n + 64) := by
  have e1 : ((2 : Int64) * (Int32.ofNat 64).toInt64).toInt = 128 := by decide
  have e2 : (((Int32.ofNat 0).toInt64 + (Int32.ofNat n).toInt64) + (Int32.ofNat 64).toInt64).toInt = n + 64 := by
    have q1 := c_ladd ((Int32.ofNat 0).toInt64 + (Int32.ofNat n).toInt64) (Int32.ofNat 64).toInt64
    have q2 := c_ladd (Int32.ofNat 0).toInt64 (Int32.ofNat n).toInt64
    rw [c_i2l, c_i2l, own_i (by omega), own_i (by omega)] at q2
    rw [c_i2l, own_i (by omega)] at q1
    have l1 := ((Int32.ofNat 0).toInt64 + (Int32.ofNat n).toInt64).toInt_lt; have l2 := ((Int32.ofNat 0).toInt64 + (Int32.ofNat n).toInt64).le_toInt
    have l3 := (((Int32.ofNat 0).toInt64 + (Int32.ofNat n).toInt64) + (Int32.ofNat 64).toInt64).toInt_lt; have l4 := (((Int32.ofNat 0).toInt64 + (Int32.ofNat n).toInt64) + (Int32.ofNat 64).toInt64).le_toInt
    omega
  generalize ((2 : Int64) * (Int32.ofNat 64).toInt64) = A at *
  generalize (((Int32.ofNat 0).toInt64 + (Int32.ofNat n).toInt64) + (Int32.ofNat 64).toInt64) = B at *
  have m1 : own_maxL A B = B := by rw [own_maxL, if_pos]; rw [Int64.lt_iff_toInt_lt]; omega
  have m2 : own_minL B 2147483639 = B := by rw [own_minL, if_neg]; rw [Int64.lt_iff_toInt_lt, show (2147483639 : Int64).toInt = 2147483639 from rfl]; omega
  rw [m1, m2]
  apply Int32.toInt_inj.mp
  have q := c_l2i B
  have l1 := B.toInt32.toInt_lt; have l2 := B.toInt32.le_toInt
  rw [own_i (by omega)]; omega
theorem own_byte (x : Int32) : nar .byte (x.toInt8.toInt32) = x.toInt8.toInt32 := by
  show (x.toInt8.toInt32).toInt8.toInt32 = _
  rw [Int8.toInt8_toInt32]
theorem own_nw : 0 + (nativeFrameWords "java/lang/System" "arraycopy" 5 + 11) ≤ 30 := by decide
theorem own_weak {h0 h : Heap} {ws : List Addr} (K : Keep h0 h []) : Keep h0 h ws := ⟨K.1, fun x c q _ => K.2.1 x c q nin0, K.2.2⟩
theorem own_or3 {a b : Nat} (ha : a < 2147483648) (hb_ : b < 2147483648) : ¬ ((Int32.ofNat a ||| (0 : Int32)) ||| Int32.ofNat b) < 0 := by
  rw [Int32.lt_iff_toInt_lt, show (0 : Int32).toInt = 0 from rfl]
  have h1 := (c_orS (Int32.ofNat a) 0).1 (by rw [own_i ha]; omega) (by decide)
  have h2 := (c_orS (Int32.ofNat a ||| 0) (Int32.ofNat b)).1 h1 (by rw [own_i hb_]; omega)
  omega

theorem d2_0 : decode jdk_2038_method_1_code 0 = .ok (.aload_n 0, 1) := by decide +kernel
theorem d2_1 : decode jdk_2038_method_1_code 1 = .ok (.invokespecial 1, 3) := by decide +kernel
theorem d2_4 : decode jdk_2038_method_1_code 4 = .ok (.return_, 1) := by decide +kernel
theorem pn2 : plainFor (⟨"java/io/OutputStream", "<init>", "()V"⟩ : MethodName) = true := plainFor_of_name (by first | (simp [plainName, overriddenIn]; done) | decide +kernel)
theorem pd2 : parseMethodDescriptor "()V" = some ⟨[], none⟩ := by decide +kernel
theorem ef2 (m : MethodId) (y0 : Addr) : entryFrame m #[(.ref y0)] 1 = mkF m 0 #[.val (.ref y0)] [] := by first | (simp [entryFrame, mkF, argsToLocals, Value.category]; done) | rfl
set_option maxRecDepth 65536 in
set_option maxHeartbeats 40000000 in
theorem rm2 (l : Launch) (Z : State) (a0 : Array Value) (hw : ∀ d ∈ tables_1, d.before a0 Z = true) (ws : List Jvm.Cond)  (h0 : Heap) (o : Addr) : Con l Z (⟨"java/io/OutputStream", "<init>", "()V"⟩ : MethodName) jdk_2038_method_1_code 1 none ws ({ frames := 1, cells := 0, slots := 0, locals := 12 } : Room) #[(.ref o)] h0 (fun v h L => v = none ∧ h = h0 ∧ L = []) := by
  refine Con.of pn2 fun p e s m below meth c s₁ hZ hx hby hml hown hret hlk hnm X0 e0 => ?_
  rw [ef2]
  show Go _ _ _ _ (s₁.setTop (mkF m 0 #[.val (.ref o)] []))
  refine Go.step (fun _ k => XS.aloadN X0.here hx rfl (hb hby d2_0) rfl rfl k) ?_
  show Go _ _ _ _ (s₁.setTop (mkF m 1 #[.val (.ref o)] [(.ref o)]))
  obtain ⟨T1, X1, e1, st1⟩ := initO X0 hx hZ hown (hw _ (List.mem_of_getElem? (i := 14) rfl)) (hw _ (List.mem_of_getElem? (i := 15) rfl)) (hw _ (List.mem_of_getElem? (i := 16) rfl)) e0 (g := (mkF m 1 #[.val (.ref o)] [(.ref o)])) rfl (by rw [hml]; rfl) rfl (hb hby d2_1) (by decide) (W := 0) (by show 2 * 0 + _ ≤ _; exact Nat.le_of_eq rfl) (by decide)
  refine Go.step st1 ?_
  show Go _ _ _ _ (T1.setTop (mkF m 4 #[.val (.ref o)] []))
  exact leafV X1 hx hret hlk (hb hby d2_4) ⟨rfl, e1, rfl⟩ (by decide) (by decide)
theorem d8_0 : decode jdk_29_method_66_code 0 = .ok (.lload_n 0, 1) := by decide +kernel
theorem d8_1 : decode jdk_29_method_66_code 1 = .ok (.lload_n 2, 1) := by decide +kernel
theorem d8_2 : decode jdk_29_method_66_code 2 = .ok (.lcmp, 1) := by decide +kernel
theorem d8_3 : decode jdk_29_method_66_code 3 = .ok (.ifCond .lt 7, 3) := by decide +kernel
theorem d8_6 : decode jdk_29_method_66_code 6 = .ok (.lload_n 0, 1) := by decide +kernel
theorem d8_7 : decode jdk_29_method_66_code 7 = .ok (.goto 4, 3) := by decide +kernel
theorem d8_10 : decode jdk_29_method_66_code 10 = .ok (.lload_n 2, 1) := by decide +kernel
theorem d8_11 : decode jdk_29_method_66_code 11 = .ok (.lreturn, 1) := by decide +kernel
theorem pn8 : plainFor (⟨"java/lang/Math", "max", "(JJ)J"⟩ : MethodName) = true := Jvm.Free.JP.mathPlain rfl (by decide +kernel)
theorem pd8 : parseMethodDescriptor "(JJ)J" = some ⟨[.long, .long], some .long⟩ := by decide +kernel
theorem ef8 (m : MethodId) (x0 : Int64) (x1 : Int64) : entryFrame m #[(.long x0), (.long x1)] 4 = mkF m 0 #[.val (.long x0), .second, .val (.long x1), .second] [] := by first | (simp [entryFrame, mkF, argsToLocals, Value.category]; done) | rfl
set_option maxRecDepth 65536 in
set_option maxHeartbeats 40000000 in
theorem rm8 (l : Launch) (Z : State) (a0 : Array Value) (hw : ∀ d ∈ tables_1, d.before a0 Z = true) (ws : List Jvm.Cond) (x0 : Int64) (x1 : Int64) (h0 : Heap) : Con l Z (⟨"java/lang/Math", "max", "(JJ)J"⟩ : MethodName) jdk_29_method_66_code 4 (some .long) ws ({ frames := 0, cells := 0, slots := 0, locals := 0 } : Room) #[(.long x0), (.long x1)] h0 (fun v h L => v = some (.long (own_maxL x0 x1)) ∧ h = h0 ∧ L = []) := by
  refine Con.of pn8 fun p e s m below meth c s₁ hZ hx hby hml hown hret hlk hnm X0 e0 => ?_
  rw [ef8]
  show Go _ _ _ _ (s₁.setTop (mkF m 0 #[.val (.long x0), .second, .val (.long x1), .second] []))
  refine Go.step (fun _ k => XS.lloadN X0.here hx rfl (hb hby d8_0) rfl k) ?_
  show Go _ _ _ _ (s₁.setTop (mkF m 1 #[.val (.long x0), .second, .val (.long x1), .second] [(.long x0)]))
  refine Go.step (fun _ k => XS.lloadN X0.here hx rfl (hb hby d8_1) rfl k) ?_
  show Go _ _ _ _ (s₁.setTop (mkF m 2 #[.val (.long x0), .second, .val (.long x1), .second] [(.long x1), (.long x0)]))
  refine Go.step (fun _ k => XS.lcmp X0.here hx rfl (hb hby d8_2) rfl k) ?_
  show Go _ _ _ _ (s₁.setTop (mkF m 3 #[.val (.long x0), .second, .val (.long x1), .second] [(.int (lcmpW x0 x1))]))
  by_cases hc1 : x0 < x1
  · refine Go.step (fun _ k => XS.ifYes X0.here hx rfl (pc0 := 3) (pc' := 10) rfl (hb hby d8_3) rfl ((if0 _ _).trans (tlt ((lw_lt _ _).mpr hc1)).1) (by decide) (by decide) k) ?_
    show Go _ _ _ _ (s₁.setTop (mkF m 10 #[.val (.long x0), .second, .val (.long x1), .second] []))
    refine Go.step (fun _ k => XS.lloadN X0.here hx rfl (hb hby d8_10) rfl k) ?_
    show Go _ _ _ _ (s₁.setTop (mkF m 11 #[.val (.long x0), .second, .val (.long x1), .second] [(.long x1)]))
    exact leafJ X0 hx hret hlk (hb hby d8_11) ⟨by rw [own_maxL, if_pos hc1], e0, rfl⟩ (by decide) (by decide)
  · refine Go.step (fun _ k => XS.ifNo X0.here hx rfl (hb hby d8_3) rfl ((if0 _ _).trans (flt (fun q => hc1 ((lw_lt _ _).mp q))).1) k) ?_
    show Go _ _ _ _ (s₁.setTop (mkF m 6 #[.val (.long x0), .second, .val (.long x1), .second] []))
    refine Go.step (fun _ k => XS.lloadN X0.here hx rfl (hb hby d8_6) rfl k) ?_
    show Go _ _ _ _ (s₁.setTop (mkF m 7 #[.val (.long x0), .second, .val (.long x1), .second] [(.long x0)]))
    refine Go.step (fun _ k => XS.goto X0.here hx rfl (pc0 := 7) (pc' := 11) rfl (hb hby d8_7) (by decide) (by decide) k) ?_
    show Go _ _ _ _ (s₁.setTop (mkF m 11 #[.val (.long x0), .second, .val (.long x1), .second] [(.long x0)]))
    exact leafJ X0 hx hret hlk (hb hby d8_11) ⟨by rw [own_maxL, if_neg hc1], e0, rfl⟩ (by decide) (by decide)
theorem d9_0 : decode jdk_29_method_70_code 0 = .ok (.lload_n 0, 1) := by decide +kernel
theorem d9_1 : decode jdk_29_method_70_code 1 = .ok (.lload_n 2, 1) := by decide +kernel
theorem d9_2 : decode jdk_29_method_70_code 2 = .ok (.lcmp, 1) := by decide +kernel
theorem d9_3 : decode jdk_29_method_70_code 3 = .ok (.ifCond .gt 7, 3) := by decide +kernel
theorem d9_6 : decode jdk_29_method_70_code 6 = .ok (.lload_n 0, 1) := by decide +kernel
theorem d9_7 : decode jdk_29_method_70_code 7 = .ok (.goto 4, 3) := by decide +kernel
theorem d9_10 : decode jdk_29_method_70_code 10 = .ok (.lload_n 2, 1) := by decide +kernel
theorem d9_11 : decode jdk_29_method_70_code 11 = .ok (.lreturn, 1) := by decide +kernel
theorem pn9 : plainFor (⟨"java/lang/Math", "min", "(JJ)J"⟩ : MethodName) = true := Jvm.Free.JP.mathPlain rfl (by decide +kernel)
theorem pd9 : parseMethodDescriptor "(JJ)J" = some ⟨[.long, .long], some .long⟩ := by decide +kernel
theorem ef9 (m : MethodId) (x0 : Int64) (x1 : Int64) : entryFrame m #[(.long x0), (.long x1)] 4 = mkF m 0 #[.val (.long x0), .second, .val (.long x1), .second] [] := by first | (simp [entryFrame, mkF, argsToLocals, Value.category]; done) | rfl
set_option maxRecDepth 65536 in
set_option maxHeartbeats 40000000 in
theorem rm9 (l : Launch) (Z : State) (a0 : Array Value) (hw : ∀ d ∈ tables_1, d.before a0 Z = true) (ws : List Jvm.Cond) (x0 : Int64) (x1 : Int64) (h0 : Heap) : Con l Z (⟨"java/lang/Math", "min", "(JJ)J"⟩ : MethodName) jdk_29_method_70_code 4 (some .long) ws ({ frames := 0, cells := 0, slots := 0, locals := 0 } : Room) #[(.long x0), (.long x1)] h0 (fun v h L => v = some (.long (own_minL x0 x1)) ∧ h = h0 ∧ L = []) := by
  refine Con.of pn9 fun p e s m below meth c s₁ hZ hx hby hml hown hret hlk hnm X0 e0 => ?_
  rw [ef9]
  show Go _ _ _ _ (s₁.setTop (mkF m 0 #[.val (.long x0), .second, .val (.long x1), .second] []))
  refine Go.step (fun _ k => XS.lloadN X0.here hx rfl (hb hby d9_0) rfl k) ?_
  show Go _ _ _ _ (s₁.setTop (mkF m 1 #[.val (.long x0), .second, .val (.long x1), .second] [(.long x0)]))
  refine Go.step (fun _ k => XS.lloadN X0.here hx rfl (hb hby d9_1) rfl k) ?_
  show Go _ _ _ _ (s₁.setTop (mkF m 2 #[.val (.long x0), .second, .val (.long x1), .second] [(.long x1), (.long x0)]))
  refine Go.step (fun _ k => XS.lcmp X0.here hx rfl (hb hby d9_2) rfl k) ?_
  show Go _ _ _ _ (s₁.setTop (mkF m 3 #[.val (.long x0), .second, .val (.long x1), .second] [(.int (lcmpW x0 x1))]))
  by_cases hc1 : x1 < x0
  · refine Go.step (fun _ k => XS.ifYes X0.here hx rfl (pc0 := 3) (pc' := 10) rfl (hb hby d9_3) rfl ((if0 _ _).trans (tlt ((lw_gt _ _).mpr hc1)).2.2.1) (by decide) (by decide) k) ?_
    show Go _ _ _ _ (s₁.setTop (mkF m 10 #[.val (.long x0), .second, .val (.long x1), .second] []))
    refine Go.step (fun _ k => XS.lloadN X0.here hx rfl (hb hby d9_10) rfl k) ?_
    show Go _ _ _ _ (s₁.setTop (mkF m 11 #[.val (.long x0), .second, .val (.long x1), .second] [(.long x1)]))
    exact leafJ X0 hx hret hlk (hb hby d9_11) ⟨by rw [own_minL, if_pos hc1], e0, rfl⟩ (by decide) (by decide)
  · refine Go.step (fun _ k => XS.ifNo X0.here hx rfl (hb hby d9_3) rfl ((if0 _ _).trans (flt (fun q => hc1 ((lw_gt _ _).mp q))).2.2.1) k) ?_
    show Go _ _ _ _ (s₁.setTop (mkF m 6 #[.val (.long x0), .second, .val (.long x1), .second] []))
    refine Go.step (fun _ k => XS.lloadN X0.here hx rfl (hb hby d9_6) rfl k) ?_
    show Go _ _ _ _ (s₁.setTop (mkF m 7 #[.val (.long x0), .second, .val (.long x1), .second] [(.long x0)]))
    refine Go.step (fun _ k => XS.goto X0.here hx rfl (pc0 := 7) (pc' := 11) rfl (hb hby d9_7) (by decide) (by decide) k) ?_
    show Go _ _ _ _ (s₁.setTop (mkF m 11 #[.val (.long x0), .second, .val (.long x1), .second] [(.long x0)]))
    exact leafJ X0 hx hret hlk (hb hby d9_11) ⟨by rw [own_minL, if_neg hc1], e0, rfl⟩ (by decide) (by decide)
theorem d11_0 : decode jdk_29_method_69_code 0 = .ok (.iload_n 0, 1) := by decide +kernel
theorem d11_1 : decode jdk_29_method_69_code 1 = .ok (.iload_n 1, 1) := by decide +kernel
theorem d11_2 : decode jdk_29_method_69_code 2 = .ok (.if_icmp .gt 7, 3) := by decide +kernel
theorem d11_5 : decode jdk_29_method_69_code 5 = .ok (.iload_n 0, 1) := by decide +kernel
theorem d11_6 : decode jdk_29_method_69_code 6 = .ok (.goto 4, 3) := by decide +kernel
theorem d11_9 : decode jdk_29_method_69_code 9 = .ok (.iload_n 1, 1) := by decide +kernel
theorem d11_10 : decode jdk_29_method_69_code 10 = .ok (.ireturn, 1) := by decide +kernel
theorem pn11 : plainFor (⟨"java/lang/Math", "min", "(II)I"⟩ : MethodName) = true := Jvm.Free.JP.mathPlain rfl (by decide +kernel)
theorem pd11 : parseMethodDescriptor "(II)I" = some ⟨[.int, .int], some .int⟩ := by decide +kernel
theorem ef11 (m : MethodId) (x0 : Int32) (x1 : Int32) : entryFrame m #[(.int x0), (.int x1)] 2 = mkF m 0 #[.val (.int x0), .val (.int x1)] [] := by first | (simp [entryFrame, mkF, argsToLocals, Value.category]; done) | rfl
set_option maxRecDepth 65536 in
set_option maxHeartbeats 40000000 in
theorem rm11 (l : Launch) (Z : State) (a0 : Array Value) (hw : ∀ d ∈ tables_1, d.before a0 Z = true) (ws : List Jvm.Cond) (x0 : Int32) (x1 : Int32) (h0 : Heap) : Con l Z (⟨"java/lang/Math", "min", "(II)I"⟩ : MethodName) jdk_29_method_69_code 2 (some .int) ws ({ frames := 0, cells := 0, slots := 0, locals := 0 } : Room) #[(.int x0), (.int x1)] h0 (fun v h L => v = some (.int (own_minI x0 x1)) ∧ h = h0 ∧ L = []) := by
  refine Con.of pn11 fun p e s m below meth c s₁ hZ hx hby hml hown hret hlk hnm X0 e0 => ?_
  rw [ef11]
  show Go _ _ _ _ (s₁.setTop (mkF m 0 #[.val (.int x0), .val (.int x1)] []))
  refine Go.step (fun _ k => XS.iloadN X0.here hx rfl (hb hby d11_0) rfl k) ?_
  show Go _ _ _ _ (s₁.setTop (mkF m 1 #[.val (.int x0), .val (.int x1)] [(.int x0)]))
  refine Go.step (fun _ k => XS.iloadN X0.here hx rfl (hb hby d11_1) rfl k) ?_
  show Go _ _ _ _ (s₁.setTop (mkF m 2 #[.val (.int x0), .val (.int x1)] [(.int x1), (.int x0)]))
  by_cases hc1 : x1 < x0
  · refine Go.step (fun _ k => XS.icmpYes X0.here hx rfl (pc0 := 2) (pc' := 9) rfl (hb hby d11_2) rfl (tlt hc1).2.2.1 (by decide) (by decide) k) ?_
    show Go _ _ _ _ (s₁.setTop (mkF m 9 #[.val (.int x0), .val (.int x1)] []))
    refine Go.step (fun _ k => XS.iloadN X0.here hx rfl (hb hby d11_9) rfl k) ?_
    show Go _ _ _ _ (s₁.setTop (mkF m 10 #[.val (.int x0), .val (.int x1)] [(.int x1)]))
    exact leafI X0 hx hret hlk (hb hby d11_10) ⟨by rw [own_minI, if_pos hc1], e0, rfl⟩ (by decide) (by decide)
  · refine Go.step (fun _ k => XS.icmpNo X0.here hx rfl (hb hby d11_2) rfl (flt hc1).2.2.1 k) ?_
    show Go _ _ _ _ (s₁.setTop (mkF m 5 #[.val (.int x0), .val (.int x1)] []))
    refine Go.step (fun _ k => XS.iloadN X0.here hx rfl (hb hby d11_5) rfl k) ?_
    show Go _ _ _ _ (s₁.setTop (mkF m 6 #[.val (.int x0), .val (.int x1)] [(.int x0)]))
    refine Go.step (fun _ k => XS.goto X0.here hx rfl (pc0 := 6) (pc' := 10) rfl (hb hby d11_6) (by decide) (by decide) k) ?_
    show Go _ _ _ _ (s₁.setTop (mkF m 10 #[.val (.int x0), .val (.int x1)] [(.int x0)]))
    exact leafI X0 hx hret hlk (hb hby d11_10) ⟨by rw [own_minI, if_neg hc1], e0, rfl⟩ (by decide) (by decide)
theorem d6_0 : decode jdk_41_method_13_code 0 = .ok (.iload_n 2, 1) := by decide +kernel
theorem d6_1 : decode jdk_41_method_13_code 1 = .ok (.iload_n 0, 1) := by decide +kernel
theorem d6_2 : decode jdk_41_method_13_code 2 = .ok (.ior, 1) := by decide +kernel
theorem d6_3 : decode jdk_41_method_13_code 3 = .ok (.iload_n 1, 1) := by decide +kernel
theorem d6_4 : decode jdk_41_method_13_code 4 = .ok (.ior, 1) := by decide +kernel
theorem d6_5 : decode jdk_41_method_13_code 5 = .ok (.ifCond .lt 10, 3) := by decide +kernel
theorem d6_8 : decode jdk_41_method_13_code 8 = .ok (.iload_n 1, 1) := by decide +kernel
theorem d6_9 : decode jdk_41_method_13_code 9 = .ok (.iload_n 2, 1) := by decide +kernel
theorem d6_10 : decode jdk_41_method_13_code 10 = .ok (.iload_n 0, 1) := by decide +kernel
theorem d6_11 : decode jdk_41_method_13_code 11 = .ok (.isub, 1) := by decide +kernel
theorem d6_12 : decode jdk_41_method_13_code 12 = .ok (.if_icmp .le 11, 3) := by decide +kernel
theorem d6_15 : decode jdk_41_method_13_code 15 = .ok (.aload_n 3, 1) := by decide +kernel
theorem d6_16 : decode jdk_41_method_13_code 16 = .ok (.iload_n 0, 1) := by decide +kernel
theorem d6_17 : decode jdk_41_method_13_code 17 = .ok (.iload_n 1, 1) := by decide +kernel
theorem d6_18 : decode jdk_41_method_13_code 18 = .ok (.iload_n 2, 1) := by decide +kernel
theorem d6_19 : decode jdk_41_method_13_code 19 = .ok (.invokestatic 103, 3) := by decide +kernel
theorem d6_22 : decode jdk_41_method_13_code 22 = .ok (.athrow, 1) := by decide +kernel
theorem d6_23 : decode jdk_41_method_13_code 23 = .ok (.iload_n 0, 1) := by decide +kernel
theorem d6_24 : decode jdk_41_method_13_code 24 = .ok (.ireturn, 1) := by decide +kernel
theorem pn6 : plainFor (⟨"jdk/internal/util/Preconditions", "checkFromIndexSize", "(IIILjava/util/function/BiFunction;)I"⟩ : MethodName) = true := plainFor_of_name (by first | (simp [plainName, overriddenIn]; done) | decide +kernel)
theorem pd6 : parseMethodDescriptor "(IIILjava/util/function/BiFunction;)I" = some ⟨[.int, .int, .int, (.object "java/util/function/BiFunction")], some .int⟩ := by decide +kernel
theorem ef6 (m : MethodId) (y0 : Int32) (y1 : Int32) (y2 : Int32) : entryFrame m #[(.int y0), (.int y1), (.int y2), .null] 4 = mkF m 0 #[.val (.int y0), .val (.int y1), .val (.int y2), .val .null] [] := by first | (simp [entryFrame, mkF, argsToLocals, Value.category]; done) | rfl
set_option maxRecDepth 65536 in
set_option maxHeartbeats 40000000 in
theorem rm6 (l : Launch) (Z : State) (a0 : Array Value) (hw : ∀ d ∈ tables_1, d.before a0 Z = true) (ws : List Jvm.Cond)  (h0 : Heap) (n m_ : Nat) (hn : n ≤ m_) (hm : m_ < 2147483648) : Con l Z (⟨"jdk/internal/util/Preconditions", "checkFromIndexSize", "(IIILjava/util/function/BiFunction;)I"⟩ : MethodName) jdk_41_method_13_code 4 (some .int) ws ({ frames := 0, cells := 0, slots := 0, locals := 0 } : Room) #[(.int (0 : Int32)), (.int (Int32.ofNat n)), (.int (Int32.ofNat m_)), .null] h0 (fun v h L => v = some (.int (0 : Int32)) ∧ h = h0 ∧ L = []) := by
  refine Con.of pn6 fun p e s m below meth c s₁ hZ hx hby hml hown hret hlk hnm X0 e0 => ?_
  rw [ef6]
  show Go _ _ _ _ (s₁.setTop (mkF m 0 #[.val (.int (0 : Int32)), .val (.int (Int32.ofNat n)), .val (.int (Int32.ofNat m_)), .val .null] []))
  refine Go.step (fun _ k => XS.iloadN X0.here hx rfl (hb hby d6_0) rfl k) ?_
  show Go _ _ _ _ (s₁.setTop (mkF m 1 #[.val (.int (0 : Int32)), .val (.int (Int32.ofNat n)), .val (.int (Int32.ofNat m_)), .val .null] [(.int (Int32.ofNat m_))]))
  refine Go.step (fun _ k => XS.iloadN X0.here hx rfl (hb hby d6_1) rfl k) ?_
  show Go _ _ _ _ (s₁.setTop (mkF m 2 #[.val (.int (0 : Int32)), .val (.int (Int32.ofNat n)), .val (.int (Int32.ofNat m_)), .val .null] [(.int (0 : Int32)), (.int (Int32.ofNat m_))]))
  refine Go.step (fun _ k => XS.ior X0.here hx rfl (hb hby d6_2) rfl k) ?_
  show Go _ _ _ _ (s₁.setTop (mkF m 3 #[.val (.int (0 : Int32)), .val (.int (Int32.ofNat n)), .val (.int (Int32.ofNat m_)), .val .null] [(.int ((Int32.ofNat m_) ||| (0 : Int32)))]))
  refine Go.step (fun _ k => XS.iloadN X0.here hx rfl (hb hby d6_3) rfl k) ?_
  show Go _ _ _ _ (s₁.setTop (mkF m 4 #[.val (.int (0 : Int32)), .val (.int (Int32.ofNat n)), .val (.int (Int32.ofNat m_)), .val .null] [(.int (Int32.ofNat n)), (.int ((Int32.ofNat m_) ||| (0 : Int32)))]))
  refine Go.step (fun _ k => XS.ior X0.here hx rfl (hb hby d6_4) rfl k) ?_
  show Go _ _ _ _ (s₁.setTop (mkF m 5 #[.val (.int (0 : Int32)), .val (.int (Int32.ofNat n)), .val (.int (Int32.ofNat m_)), .val .null] [(.int (((Int32.ofNat m_) ||| (0 : Int32)) ||| (Int32.ofNat n)))]))
  refine Go.step (fun _ k => XS.ifNo X0.here hx rfl (hb hby d6_5) rfl ((if0 _ _).trans (flt (own_or3 (by omega) (by omega))).1) k) ?_
  show Go _ _ _ _ (s₁.setTop (mkF m 8 #[.val (.int (0 : Int32)), .val (.int (Int32.ofNat n)), .val (.int (Int32.ofNat m_)), .val .null] []))
  refine Go.step (fun _ k => XS.iloadN X0.here hx rfl (hb hby d6_8) rfl k) ?_
  show Go _ _ _ _ (s₁.setTop (mkF m 9 #[.val (.int (0 : Int32)), .val (.int (Int32.ofNat n)), .val (.int (Int32.ofNat m_)), .val .null] [(.int (Int32.ofNat n))]))
  refine Go.step (fun _ k => XS.iloadN X0.here hx rfl (hb hby d6_9) rfl k) ?_
  show Go _ _ _ _ (s₁.setTop (mkF m 10 #[.val (.int (0 : Int32)), .val (.int (Int32.ofNat n)), .val (.int (Int32.ofNat m_)), .val .null] [(.int (Int32.ofNat m_)), (.int (Int32.ofNat n))]))
  refine Go.step (fun _ k => XS.iloadN X0.here hx rfl (hb hby d6_10) rfl k) ?_
  show Go _ _ _ _ (s₁.setTop (mkF m 11 #[.val (.int (0 : Int32)), .val (.int (Int32.ofNat n)), .val (.int (Int32.ofNat m_)), .val .null] [(.int (0 : Int32)), (.int (Int32.ofNat m_)), (.int (Int32.ofNat n))]))
  refine Go.step (fun _ k => XS.isub X0.here hx rfl (hb hby d6_11) rfl k) ?_
  show Go _ _ _ _ (s₁.setTop (mkF m 12 #[.val (.int (0 : Int32)), .val (.int (Int32.ofNat n)), .val (.int (Int32.ofNat m_)), .val .null] [(.int ((Int32.ofNat m_) - (0 : Int32))), (.int (Int32.ofNat n))]))
  refine Go.step (fun _ k => XS.icmpYes X0.here hx rfl (pc0 := 12) (pc' := 23) rfl (hb hby d6_12) rfl (flt (show ¬ (((Int32.ofNat m_) - (0 : Int32)) < (Int32.ofNat n)) from (by rw [show Int32.ofNat m_ - (0 : Int32) = Int32.ofNat m_ from own_sub (b := 0) (by omega) (by omega), own_lt (by omega) (by omega)]; omega))).2.2.2 (by decide) (by decide) k) ?_
  show Go _ _ _ _ (s₁.setTop (mkF m 23 #[.val (.int (0 : Int32)), .val (.int (Int32.ofNat n)), .val (.int (Int32.ofNat m_)), .val .null] []))
  refine Go.step (fun _ k => XS.iloadN X0.here hx rfl (hb hby d6_23) rfl k) ?_
  show Go _ _ _ _ (s₁.setTop (mkF m 24 #[.val (.int (0 : Int32)), .val (.int (Int32.ofNat n)), .val (.int (Int32.ofNat m_)), .val .null] [(.int (0 : Int32))]))
  exact leafI X0 hx hret hlk (hb hby d6_24) ⟨rfl, e0, rfl⟩ (by decide) (by decide)
theorem d5_0 : decode jdk_31_method_19_code 0 = .ok (.iload_n 0, 1) := by decide +kernel
theorem d5_1 : decode jdk_31_method_19_code 1 = .ok (.iload_n 1, 1) := by decide +kernel
theorem d5_2 : decode jdk_31_method_19_code 2 = .ok (.iload_n 2, 1) := by decide +kernel
theorem d5_3 : decode jdk_31_method_19_code 3 = .ok (.aconst_null, 1) := by decide +kernel
theorem d5_4 : decode jdk_31_method_19_code 4 = .ok (.invokestatic 115, 3) := by decide +kernel
theorem d5_7 : decode jdk_31_method_19_code 7 = .ok (.ireturn, 1) := by decide +kernel
theorem pn5 : plainFor (⟨"java/util/Objects", "checkFromIndexSize", "(III)I"⟩ : MethodName) = true := plainFor_of_name (by first | (simp [plainName, overriddenIn]; done) | decide +kernel)
theorem pd5 : parseMethodDescriptor "(III)I" = some ⟨[.int, .int, .int], some .int⟩ := by decide +kernel
theorem ef5 (m : MethodId) (y0 : Int32) (y1 : Int32) (y2 : Int32) : entryFrame m #[(.int y0), (.int y1), (.int y2)] 3 = mkF m 0 #[.val (.int y0), .val (.int y1), .val (.int y2)] [] := by first | (simp [entryFrame, mkF, argsToLocals, Value.category]; done) | rfl
set_option maxRecDepth 65536 in
set_option maxHeartbeats 40000000 in
theorem rm5 (l : Launch) (Z : State) (a0 : Array Value) (hw : ∀ d ∈ tables_1, d.before a0 Z = true) (ws : List Jvm.Cond)  (h0 : Heap) (n m_ : Nat) (hn : n ≤ m_) (hm : m_ < 2147483648) : Con l Z (⟨"java/util/Objects", "checkFromIndexSize", "(III)I"⟩ : MethodName) jdk_31_method_19_code 3 (some .int) ws ({ frames := 1, cells := 0, slots := 0, locals := 15 } : Room) #[(.int (0 : Int32)), (.int (Int32.ofNat n)), (.int (Int32.ofNat m_))] h0 (fun v h L => v = some (.int (0 : Int32)) ∧ h = h0 ∧ L = []) := by
  refine Con.of pn5 fun p e s m below meth c s₁ hZ hx hby hml hown hret hlk hnm X0 e0 => ?_
  rw [ef5]
  show Go _ _ _ _ (s₁.setTop (mkF m 0 #[.val (.int (0 : Int32)), .val (.int (Int32.ofNat n)), .val (.int (Int32.ofNat m_))] []))
  refine Go.step (fun _ k => XS.iloadN X0.here hx rfl (hb hby d5_0) rfl k) ?_
  show Go _ _ _ _ (s₁.setTop (mkF m 1 #[.val (.int (0 : Int32)), .val (.int (Int32.ofNat n)), .val (.int (Int32.ofNat m_))] [(.int (0 : Int32))]))
  refine Go.step (fun _ k => XS.iloadN X0.here hx rfl (hb hby d5_1) rfl k) ?_
  show Go _ _ _ _ (s₁.setTop (mkF m 2 #[.val (.int (0 : Int32)), .val (.int (Int32.ofNat n)), .val (.int (Int32.ofNat m_))] [(.int (Int32.ofNat n)), (.int (0 : Int32))]))
  refine Go.step (fun _ k => XS.iloadN X0.here hx rfl (hb hby d5_2) rfl k) ?_
  show Go _ _ _ _ (s₁.setTop (mkF m 3 #[.val (.int (0 : Int32)), .val (.int (Int32.ofNat n)), .val (.int (Int32.ofNat m_))] [(.int (Int32.ofNat m_)), (.int (Int32.ofNat n)), (.int (0 : Int32))]))
  refine Go.step (fun _ k => XS.aconstNull X0.here hx rfl (hb hby d5_3) k) ?_
  show Go _ _ _ _ (s₁.setTop (mkF m 4 #[.val (.int (0 : Int32)), .val (.int (Int32.ofNat n)), .val (.int (Int32.ofNat m_))] [.null, (.int (Int32.ofNat m_)), (.int (Int32.ofNat n)), (.int (0 : Int32))]))
  refine goS X0 hx hZ hown (hw _ (List.mem_of_getElem? (i := 28) rfl)) (hw _ (List.mem_of_getElem? (i := 29) rfl)) (hw _ (List.mem_of_getElem? (i := 30) rfl)) (hw _ (List.mem_of_getElem? (i := 31) rfl)) (by decide) (rm6 l Z a0 hw [] h0 n m_ hn hm) e0 (by rw [hml]; rfl) [(.int (0 : Int32)), (.int (Int32.ofNat n)), (.int (Int32.ofNat m_)), .null] [] rfl pd6 rfl rfl 0 rfl (hb hby d5_4) (by decide) (by decide) (by decide) (by decide) fun T1 L1 v1 q1 X1 => ?_
  obtain ⟨rfl, e1, rfl⟩ := q1
  rw [List.append_nil] at X1
  show Go _ _ _ _ (T1.setTop (mkF m 7 #[.val (.int (0 : Int32)), .val (.int (Int32.ofNat n)), .val (.int (Int32.ofNat m_))] [(.int (0 : Int32))]))
  exact leafI X1 hx hret hlk (hb hby d5_7) ⟨rfl, e1, rfl⟩ (by decide) (by decide)
theorem d10_0 : decode jdk_65_method_121_code 0 = .ok (.iload_n 1, 1) := by decide +kernel
theorem d10_1 : decode jdk_65_method_121_code 1 = .ok (.aload_n 0, 1) := by decide +kernel
theorem d10_2 : decode jdk_65_method_121_code 2 = .ok (.arraylength, 1) := by decide +kernel
theorem d10_3 : decode jdk_65_method_121_code 3 = .ok (.if_icmp .ne 11, 3) := by decide +kernel
theorem d10_6 : decode jdk_65_method_121_code 6 = .ok (.aload_n 0, 1) := by decide +kernel
theorem d10_7 : decode jdk_65_method_121_code 7 = .ok (.invokevirtual 310, 3) := by decide +kernel
theorem d10_10 : decode jdk_65_method_121_code 10 = .ok (.checkcast 311, 3) := by decide +kernel
theorem d10_13 : decode jdk_65_method_121_code 13 = .ok (.areturn, 1) := by decide +kernel
theorem d10_14 : decode jdk_65_method_121_code 14 = .ok (.iload_n 1, 1) := by decide +kernel
theorem d10_15 : decode jdk_65_method_121_code 15 = .ok (.newarray .byte, 2) := by decide +kernel
theorem d10_17 : decode jdk_65_method_121_code 17 = .ok (.astore_n 2, 1) := by decide +kernel
theorem d10_18 : decode jdk_65_method_121_code 18 = .ok (.aload_n 0, 1) := by decide +kernel
theorem d10_19 : decode jdk_65_method_121_code 19 = .ok (.iconst 0, 1) := by decide +kernel
theorem d10_20 : decode jdk_65_method_121_code 20 = .ok (.aload_n 2, 1) := by decide +kernel
theorem d10_21 : decode jdk_65_method_121_code 21 = .ok (.iconst 0, 1) := by decide +kernel
theorem d10_22 : decode jdk_65_method_121_code 22 = .ok (.aload_n 0, 1) := by decide +kernel
theorem d10_23 : decode jdk_65_method_121_code 23 = .ok (.arraylength, 1) := by decide +kernel
theorem d10_24 : decode jdk_65_method_121_code 24 = .ok (.iload_n 1, 1) := by decide +kernel
theorem d10_25 : decode jdk_65_method_121_code 25 = .ok (.invokestatic 304, 3) := by decide +kernel
theorem d10_28 : decode jdk_65_method_121_code 28 = .ok (.invokestatic 150, 3) := by decide +kernel
theorem d10_31 : decode jdk_65_method_121_code 31 = .ok (.aload_n 2, 1) := by decide +kernel
theorem d10_32 : decode jdk_65_method_121_code 32 = .ok (.areturn, 1) := by decide +kernel
theorem pn10 : plainFor (⟨"java/util/Arrays", "copyOf", "([BI)[B"⟩ : MethodName) = true := plainFor_of_name (by first | (simp [plainName, overriddenIn]; done) | decide +kernel)
theorem pd10 : parseMethodDescriptor "([BI)[B" = some ⟨[(.array .byte), .int], some (.array .byte)⟩ := by decide +kernel
theorem ef10 (m : MethodId) (y0 : Addr) (y1 : Int32) : entryFrame m #[(.ref y0), (.int y1)] 3 = mkF m 0 #[.val (.ref y0), .val (.int y1), .unset] [] := by first | (simp [entryFrame, mkF, argsToLocals, Value.category]; done) | rfl
set_option maxRecDepth 65536 in
set_option maxHeartbeats 40000000 in
theorem rm10 (l : Launch) (Z : State) (a0 : Array Value) (hw : ∀ d ∈ tables_1, d.before a0 Z = true) (ws : List Jvm.Cond)  (h0 : Heap) (a : Addr) (n_ m_ cap n0 : Nat) (vs : List Value) (BA : Bv Z h0 a m_ vs) (hne : n_ ≠ m_) (hm : m_ < 2147483648) (hcap : n_ ≤ cap) (hbig : cap * 8 ≤ 536870912) (Z0 : n0 ≤ h0.size) : Con l Z (⟨"java/util/Arrays", "copyOf", "([BI)[B"⟩ : MethodName) jdk_65_method_121_code 3 (some (.array .byte)) ws ({ frames := 1, cells := 1, slots := cap, locals := 30 } : Room) #[(.ref a), (.int (Int32.ofNat n_))] h0 (fun v h L => ∃ b : Addr, v = some (.ref b) ∧ Fr n0 L ∧ Keep h0 h [] ∧ n0 ≤ b ∧ h0.size ≤ b ∧ ∃ vs', Bv Z h b n_ vs' ∧ ∀ j, j < m_ → j < n_ → vs'.getD j (.int 0) = vs.getD j (.int 0)) := by
  refine Con.of pn10 fun p e s m below meth c s₁ hZ hx hby hml hown hret hlk hnm X0 e0 => ?_
  rw [ef10]
  show Go _ _ _ _ (s₁.setTop (mkF m 0 #[.val (.ref a), .val (.int (Int32.ofNat n_)), .unset] []))
  refine Go.step (fun _ k => XS.iloadN X0.here hx rfl (hb hby d10_0) rfl k) ?_
  show Go _ _ _ _ (s₁.setTop (mkF m 1 #[.val (.ref a), .val (.int (Int32.ofNat n_)), .unset] [(.int (Int32.ofNat n_))]))
  refine Go.step (fun _ k => XS.aloadN X0.here hx rfl (hb hby d10_1) rfl rfl k) ?_
  show Go _ _ _ _ (s₁.setTop (mkF m 2 #[.val (.ref a), .val (.int (Int32.ofNat n_)), .unset] [(.ref a), (.int (Int32.ofNat n_))]))
  obtain ⟨⟨k1, cl1, Ar1, q1, S1, N1, H1, G1⟩, l1⟩ := id BA
  refine Go.step (fun tg k => X0.arraylength hx (by rw [e0]; exact Ar1.1) (State.isArrayOf_alike hZ.alike Ar1.2.1) (g := (mkF m 2 #[.val (.ref a), .val (.int (Int32.ofNat n_)), .unset] [(.ref a), (.int (Int32.ofNat n_))])) rfl rfl (hb hby d10_2) tg k) ?_
  rw [len_of S1 N1]
  show Go _ _ _ _ (s₁.setTop (mkF m 3 #[.val (.ref a), .val (.int (Int32.ofNat n_)), .unset] [(.int (Int32.ofNat m_)), (.int (Int32.ofNat n_))]))
  refine Go.step (fun _ k => XS.icmpYes X0.here hx rfl (pc0 := 3) (pc' := 14) rfl (hb hby d10_3) rfl (feq (show ¬ ((Int32.ofNat n_) = (Int32.ofNat m_)) from (by rw [own_eq (by omega) (by omega)]; omega))).2 (by decide) (by decide) k) ?_
  show Go _ _ _ _ (s₁.setTop (mkF m 14 #[.val (.ref a), .val (.int (Int32.ofNat n_)), .unset] []))
  refine Go.step (fun _ k => XS.iloadN X0.here hx rfl (hb hby d10_14) rfl k) ?_
  show Go _ _ _ _ (s₁.setTop (mkF m 15 #[.val (.ref a), .val (.int (Int32.ofNat n_)), .unset] [(.int (Int32.ofNat n_))]))
  obtain ⟨T2, h2, kN, X2, e2, E2, A2, st2⟩ := newP X0 hx hZ (hw _ (List.mem_of_getElem? (i := 1) rfl)) e0 (g := (mkF m 15 #[.val (.ref a), .val (.int (Int32.ofNat n_)), .unset] [(.int (Int32.ofNat n_))])) rfl (hb hby d10_15) rfl (own_nn (by omega)) (cap := cap) (by rw [own_clamp (by omega)]; exact hcap) hbig (Nat.le_refl _) (Nat.le_of_eq (Nat.zero_add _))
  obtain ⟨b, gb⟩ : ∃ z, z = h0.size := ⟨_, rfl⟩
  rw [← gb] at A2 st2
  have gn : n0 ≤ b := Nat.le_trans Z0 (Nat.le_of_eq gb.symm)
  have BN : Bv Z h2 b n_ (List.replicate n_ (.int 0)) := Bv.fresh A2 (by omega)
  have nab : a ≠ b := Nat.ne_of_lt (Nat.lt_of_lt_of_le BA.lt (Nat.le_of_eq gb.symm))
  have KN : Keep h0 h2 [] := (Keep.refl h0 []).ext E2
  have BA1 := BA.keep KN nin0
  refine Go.step st2 ?_
  show Go _ _ _ _ (T2.setTop (mkF m 17 #[.val (.ref a), .val (.int (Int32.ofNat n_)), .unset] [(.ref b)]))
  refine Go.step (fun _ k => XS.astoreN X2.here hx rfl (hb hby d10_17) rfl rfl (l' := #[.val (.ref a), .val (.int (Int32.ofNat n_)), .val (.ref b)]) rfl k) ?_
  show Go _ _ _ _ (T2.setTop (mkF m 18 #[.val (.ref a), .val (.int (Int32.ofNat n_)), .val (.ref b)] []))
  refine Go.step (fun _ k => XS.aloadN X2.here hx rfl (hb hby d10_18) rfl rfl k) ?_
  show Go _ _ _ _ (T2.setTop (mkF m 19 #[.val (.ref a), .val (.int (Int32.ofNat n_)), .val (.ref b)] [(.ref a)]))
  refine Go.step (fun _ k => XS.iconst X2.here hx rfl (hb hby d10_19) k) ?_
  show Go _ _ _ _ (T2.setTop (mkF m 20 #[.val (.ref a), .val (.int (Int32.ofNat n_)), .val (.ref b)] [(.int (0 : Int32)), (.ref a)]))
  refine Go.step (fun _ k => XS.aloadN X2.here hx rfl (hb hby d10_20) rfl rfl k) ?_
  show Go _ _ _ _ (T2.setTop (mkF m 21 #[.val (.ref a), .val (.int (Int32.ofNat n_)), .val (.ref b)] [(.ref b), (.int (0 : Int32)), (.ref a)]))
  refine Go.step (fun _ k => XS.iconst X2.here hx rfl (hb hby d10_21) k) ?_
  show Go _ _ _ _ (T2.setTop (mkF m 22 #[.val (.ref a), .val (.int (Int32.ofNat n_)), .val (.ref b)] [(.int (0 : Int32)), (.ref b), (.int (0 : Int32)), (.ref a)]))
  refine Go.step (fun _ k => XS.aloadN X2.here hx rfl (hb hby d10_22) rfl rfl k) ?_
  show Go _ _ _ _ (T2.setTop (mkF m 23 #[.val (.ref a), .val (.int (Int32.ofNat n_)), .val (.ref b)] [(.ref a), (.int (0 : Int32)), (.ref b), (.int (0 : Int32)), (.ref a)]))
  obtain ⟨⟨k3, cl3, Ar3, q3, S3, N3, H3, G3⟩, l3⟩ := id BA1
  refine Go.step (fun tg k => X2.arraylength hx (by rw [e2]; exact Ar3.1) (State.isArrayOf_alike hZ.alike Ar3.2.1) (g := (mkF m 23 #[.val (.ref a), .val (.int (Int32.ofNat n_)), .val (.ref b)] [(.ref a), (.int (0 : Int32)), (.ref b), (.int (0 : Int32)), (.ref a)])) rfl rfl (hb hby d10_23) tg k) ?_
  rw [len_of S3 N3]
  show Go _ _ _ _ (T2.setTop (mkF m 24 #[.val (.ref a), .val (.int (Int32.ofNat n_)), .val (.ref b)] [(.int (Int32.ofNat m_)), (.int (0 : Int32)), (.ref b), (.int (0 : Int32)), (.ref a)]))
  refine Go.step (fun _ k => XS.iloadN X2.here hx rfl (hb hby d10_24) rfl k) ?_
  show Go _ _ _ _ (T2.setTop (mkF m 25 #[.val (.ref a), .val (.int (Int32.ofNat n_)), .val (.ref b)] [(.int (Int32.ofNat n_)), (.int (Int32.ofNat m_)), (.int (0 : Int32)), (.ref b), (.int (0 : Int32)), (.ref a)]))
  refine goS X2 hx hZ hown (hw _ (List.mem_of_getElem? (i := 52) rfl)) (hw _ (List.mem_of_getElem? (i := 53) rfl)) (hw _ (List.mem_of_getElem? (i := 42) rfl)) (hw _ (List.mem_of_getElem? (i := 54) rfl)) (by decide) (rm11 l Z a0 hw [] (Int32.ofNat m_) (Int32.ofNat n_) _) e2 (by rw [hml]; rfl) [(.int (Int32.ofNat m_)), (.int (Int32.ofNat n_))] [(.int (0 : Int32)), (.ref b), (.int (0 : Int32)), (.ref a)] rfl pd11 rfl rfl 4 rfl (hb hby d10_25) (Nat.le_refl _) (by show 4 + (2 + 11) + 0 ≤ 30; decide) (Nat.le_refl _) (Nat.le_of_eq (Nat.zero_add _)) fun T4 L4 v4 q4 X4 => ?_
  obtain ⟨rfl, e4, rfl⟩ := q4
  rw [List.append_nil] at X4
  rw [own_minN (by omega) (by omega)]
  show Go _ _ _ _ (T4.setTop (mkF m 28 #[.val (.ref a), .val (.int (Int32.ofNat n_)), .val (.ref b)] [(.int (Int32.ofNat (min m_ n_))), (.int (0 : Int32)), (.ref b), (.int (0 : Int32)), (.ref a)]))
  obtain ⟨⟨kA, AA⟩, lA⟩ := BA1
  obtain ⟨⟨kB, AB⟩, lB⟩ := BN
  have cm : (Int32.ofNat (min m_ n_)).toNatClampNeg = min m_ n_ := own_clamp (by omega)
  have c0 : (0 : Int32).toNatClampNeg = 0 := rfl
  have cM : (Int32.ofNat m_).toNatClampNeg = m_ := own_clamp (by omega)
  have cN : (Int32.ofNat n_).toNatClampNeg = n_ := own_clamp (by omega)
  obtain ⟨T9, h9, L9, X9, e9, N9, K9, V9, st9⟩ := cpA X4 hx hZ hown (hw _ (List.mem_of_getElem? (i := 55) rfl)) (hw _ (List.mem_of_getElem? (i := 58) rfl)) (hw _ (List.mem_of_getElem? (i := 56) rfl)) (hw _ (List.mem_of_getElem? (i := 57) rfl)) e4 AA AB (Or.inl ⟨rfl, rfl⟩) (sp := 0) (dp := 0) (nn := Int32.ofNat (min m_ n_)) (by decide) (by decide) (own_nn (by omega)) (by rw [c0, cm, cM]; omega) (by rw [c0, cm, cN]; omega) rfl (by rw [c0, cm, lB]; omega) (n0 := n0) (Fr.nil n0) gn (g := (mkF m 28 #[.val (.ref a), .val (.int (Int32.ofNat n_)), .val (.ref b)] [(.int (Int32.ofNat (min m_ n_))), (.int (0 : Int32)), (.ref b), (.int (0 : Int32)), (.ref a)])) rfl (by rw [hml]; rfl) rfl (hb hby d10_28) (Nat.le_refl 1) (W := 0) (by show 2 * 0 + _ ≤ _; exact Nat.le_of_eq rfl) own_nw
  rw [c0, cm] at V9
  have BR : ∃ vs', Bv Z h9 b n_ vs' ∧ ∀ j, j < m_ → j < n_ → vs'.getD j (.int 0) = vs.getD j (.int 0) := by
    refine ⟨_, ⟨⟨kB, V9⟩, ?_⟩, fun j j1 j2 => ?_⟩
    · simp; omega
    · have q : j < min m_ n_ := by omega
      simp [List.getD_eq_getElem?_getD, List.getElem?_append, q]
  have KR : Keep h0 h9 [] := KN.trans K9 (by intro x hx; cases List.mem_singleton.mp hx; exact Or.inr (Nat.le_of_eq gb.symm))
  refine Go.step st9 ?_
  show Go _ _ _ _ (T9.setTop (mkF m 31 #[.val (.ref a), .val (.int (Int32.ofNat n_)), .val (.ref b)] []))
  refine Go.step (fun _ k => XS.aloadN X9.here hx rfl (hb hby d10_31) rfl rfl k) ?_
  show Go _ _ _ _ (T9.setTop (mkF m 32 #[.val (.ref a), .val (.int (Int32.ofNat n_)), .val (.ref b)] [(.ref b)]))
  exact leafA X9 hx hret rfl hlk rfl rfl (hb hby d10_32) ⟨b, rfl, N9, by rw [e9]; exact KR, gn, Nat.le_of_eq gb.symm, by rw [e9]; exact BR⟩ (Nat.le_refl _) (Nat.le_of_eq (Nat.zero_add _))
theorem d7_0 : decode prog_51_method_23_code 0 = .ok (.iload_n 1, 1) := by decide +kernel
theorem d7_1 : decode prog_51_method_23_code 1 = .ok (.aload_n 0, 1) := by decide +kernel
theorem d7_2 : decode prog_51_method_23_code 2 = .ok (.getfield 11, 3) := by decide +kernel
theorem d7_5 : decode prog_51_method_23_code 5 = .ok (.arraylength, 1) := by decide +kernel
theorem d7_6 : decode prog_51_method_23_code 6 = .ok (.aload_n 0, 1) := by decide +kernel
theorem d7_7 : decode prog_51_method_23_code 7 = .ok (.getfield 19, 3) := by decide +kernel
theorem d7_10 : decode prog_51_method_23_code 10 = .ok (.isub, 1) := by decide +kernel
theorem d7_11 : decode prog_51_method_23_code 11 = .ok (.if_icmp .le 72, 3) := by decide +kernel
theorem d7_14 : decode prog_51_method_23_code 14 = .ok (.iload_n 1, 1) := by decide +kernel
theorem d7_15 : decode prog_51_method_23_code 15 = .ok (.ldc 104, 2) := by decide +kernel
theorem d7_17 : decode prog_51_method_23_code 17 = .ok (.aload_n 0, 1) := by decide +kernel
theorem d7_18 : decode prog_51_method_23_code 18 = .ok (.getfield 19, 3) := by decide +kernel
theorem d7_21 : decode prog_51_method_23_code 21 = .ok (.isub, 1) := by decide +kernel
theorem d7_22 : decode prog_51_method_23_code 22 = .ok (.if_icmp .le 13, 3) := by decide +kernel
theorem d7_25 : decode prog_51_method_23_code 25 = .ok (.new 105, 3) := by decide +kernel
theorem d7_28 : decode prog_51_method_23_code 28 = .ok (.dup, 1) := by decide +kernel
theorem d7_29 : decode prog_51_method_23_code 29 = .ok (.ldc 107, 2) := by decide +kernel
theorem d7_31 : decode prog_51_method_23_code 31 = .ok (.invokespecial 109, 3) := by decide +kernel
theorem d7_34 : decode prog_51_method_23_code 34 = .ok (.athrow, 1) := by decide +kernel
theorem d7_35 : decode prog_51_method_23_code 35 = .ok (.ldc2_w 110, 3) := by decide +kernel
theorem d7_38 : decode prog_51_method_23_code 38 = .ok (.aload_n 0, 1) := by decide +kernel
theorem d7_39 : decode prog_51_method_23_code 39 = .ok (.getfield 11, 3) := by decide +kernel
theorem d7_42 : decode prog_51_method_23_code 42 = .ok (.arraylength, 1) := by decide +kernel
theorem d7_43 : decode prog_51_method_23_code 43 = .ok (.i2l, 1) := by decide +kernel
theorem d7_44 : decode prog_51_method_23_code 44 = .ok (.lmul, 1) := by decide +kernel
theorem d7_45 : decode prog_51_method_23_code 45 = .ok (.aload_n 0, 1) := by decide +kernel
theorem d7_46 : decode prog_51_method_23_code 46 = .ok (.getfield 19, 3) := by decide +kernel
theorem d7_49 : decode prog_51_method_23_code 49 = .ok (.i2l, 1) := by decide +kernel
theorem d7_50 : decode prog_51_method_23_code 50 = .ok (.iload_n 1, 1) := by decide +kernel
theorem d7_51 : decode prog_51_method_23_code 51 = .ok (.i2l, 1) := by decide +kernel
theorem d7_52 : decode prog_51_method_23_code 52 = .ok (.ladd, 1) := by decide +kernel
theorem d7_53 : decode prog_51_method_23_code 53 = .ok (.aload_n 0, 1) := by decide +kernel
theorem d7_54 : decode prog_51_method_23_code 54 = .ok (.getfield 11, 3) := by decide +kernel
theorem d7_57 : decode prog_51_method_23_code 57 = .ok (.arraylength, 1) := by decide +kernel
theorem d7_58 : decode prog_51_method_23_code 58 = .ok (.i2l, 1) := by decide +kernel
theorem d7_59 : decode prog_51_method_23_code 59 = .ok (.ladd, 1) := by decide +kernel
theorem d7_60 : decode prog_51_method_23_code 60 = .ok (.invokestatic 112, 3) := by decide +kernel
theorem d7_63 : decode prog_51_method_23_code 63 = .ok (.lstore_n 2, 1) := by decide +kernel
theorem d7_64 : decode prog_51_method_23_code 64 = .ok (.aload_n 0, 1) := by decide +kernel
theorem d7_65 : decode prog_51_method_23_code 65 = .ok (.aload_n 0, 1) := by decide +kernel
theorem d7_66 : decode prog_51_method_23_code 66 = .ok (.getfield 11, 3) := by decide +kernel
theorem d7_69 : decode prog_51_method_23_code 69 = .ok (.lload_n 2, 1) := by decide +kernel
theorem d7_70 : decode prog_51_method_23_code 70 = .ok (.ldc2_w 118, 3) := by decide +kernel
theorem d7_73 : decode prog_51_method_23_code 73 = .ok (.invokestatic 120, 3) := by decide +kernel
theorem d7_76 : decode prog_51_method_23_code 76 = .ok (.l2i, 1) := by decide +kernel
theorem d7_77 : decode prog_51_method_23_code 77 = .ok (.invokestatic 98, 3) := by decide +kernel
theorem d7_80 : decode prog_51_method_23_code 80 = .ok (.putfield 11, 3) := by decide +kernel
theorem d7_83 : decode prog_51_method_23_code 83 = .ok (.return_, 1) := by decide +kernel
theorem pn7 : plainFor (⟨"com/example/farcall/farcall/MessageBuffer", "ensureRoomFor", "(I)V"⟩ : MethodName) = true := plainFor_of_name (by first | (simp [plainName, overriddenIn]; done) | decide +kernel)
theorem pd7 : parseMethodDescriptor "(I)V" = some ⟨[.int], none⟩ := by decide +kernel
theorem ef7 (m : MethodId) (y0 : Addr) (y1 : Int32) : entryFrame m #[(.ref y0), (.int y1)] 4 = mkF m 0 #[.val (.ref y0), .val (.int y1), .unset, .unset] [] := by first | (simp [entryFrame, mkF, argsToLocals, Value.category]; done) | rfl
set_option maxRecDepth 65536 in
set_option maxHeartbeats 40000000 in
theorem rmEa (l : Launch) (Z : State) (a0 : Array Value) (hw : ∀ d ∈ tables_1, d.before a0 Z = true) (ws : List Jvm.Cond)  (h0 : Heap) (o b : Addr) (n cap sz : Nat) (vs : List Value) (Fb : Fld Z h0 o "com/example/farcall/farcall/MessageBuffer" "bytes" "[B" (.ref b)) (Fs : Fld Z h0 o "com/example/farcall/farcall/MessageBuffer" "size" "I" (.int (Int32.ofNat sz))) (BB : Bv Z h0 b cap vs) (hn : n ≤ cap - sz) (hsz : sz ≤ cap) (hcap : cap < 2147483648) : Con l Z (⟨"com/example/farcall/farcall/MessageBuffer", "ensureRoomFor", "(I)V"⟩ : MethodName) prog_51_method_23_code 4 none ws ({ frames := 0, cells := 0, slots := 0, locals := 0 } : Room) #[(.ref o), (.int (Int32.ofNat n))] h0 (fun v h L => v = none ∧ h = h0 ∧ L = []) := by
  refine Con.of pn7 fun p e s m below meth c s₁ hZ hx hby hml hown hret hlk hnm X0 e0 => ?_
  rw [ef7]
  show Go _ _ _ _ (s₁.setTop (mkF m 0 #[.val (.ref o), .val (.int (Int32.ofNat n)), .unset, .unset] []))
  refine Go.step (fun _ k => XS.iloadN X0.here hx rfl (hb hby d7_0) rfl k) ?_
  show Go _ _ _ _ (s₁.setTop (mkF m 1 #[.val (.ref o), .val (.int (Int32.ofNat n)), .unset, .unset] [(.int (Int32.ofNat n))]))
  refine Go.step (fun _ k => XS.aloadN X0.here hx rfl (hb hby d7_1) rfl rfl k) ?_
  show Go _ _ _ _ (s₁.setTop (mkF m 2 #[.val (.ref o), .val (.int (Int32.ofNat n)), .unset, .unset] [(.ref o), (.int (Int32.ofNat n))]))
  obtain ⟨T1, X1, e1, st1⟩ := getF X0 hx hZ hown (host := "") (Or.inl (hw _ (List.mem_of_getElem? (i := 17) rfl))) Via.refl e0 Fb (g := (mkF m 2 #[.val (.ref o), .val (.int (Int32.ofNat n)), .unset, .unset] [(.ref o), (.int (Int32.ofNat n))])) rfl rfl (hb hby d7_2)
  refine Go.step st1 ?_
  show Go _ _ _ _ (T1.setTop (mkF m 5 #[.val (.ref o), .val (.int (Int32.ofNat n)), .unset, .unset] [(.ref b), (.int (Int32.ofNat n))]))
  obtain ⟨⟨k2, cl2, Ar2, q2, S2, N2, H2, G2⟩, l2⟩ := id BB
  refine Go.step (fun tg k => X1.arraylength hx (by rw [e1]; exact Ar2.1) (State.isArrayOf_alike hZ.alike Ar2.2.1) (g := (mkF m 5 #[.val (.ref o), .val (.int (Int32.ofNat n)), .unset, .unset] [(.ref b), (.int (Int32.ofNat n))])) rfl rfl (hb hby d7_5) tg k) ?_
  rw [len_of S2 N2]
  show Go _ _ _ _ (T1.setTop (mkF m 6 #[.val (.ref o), .val (.int (Int32.ofNat n)), .unset, .unset] [(.int (Int32.ofNat cap)), (.int (Int32.ofNat n))]))
  refine Go.step (fun _ k => XS.aloadN X1.here hx rfl (hb hby d7_6) rfl rfl k) ?_
  show Go _ _ _ _ (T1.setTop (mkF m 7 #[.val (.ref o), .val (.int (Int32.ofNat n)), .unset, .unset] [(.ref o), (.int (Int32.ofNat cap)), (.int (Int32.ofNat n))]))
  obtain ⟨T3, X3, e3, st3⟩ := getF X1 hx hZ hown (host := "") (Or.inl (hw _ (List.mem_of_getElem? (i := 36) rfl))) Via.refl e1 Fs (g := (mkF m 7 #[.val (.ref o), .val (.int (Int32.ofNat n)), .unset, .unset] [(.ref o), (.int (Int32.ofNat cap)), (.int (Int32.ofNat n))])) rfl rfl (hb hby d7_7)
  refine Go.step st3 ?_
  show Go _ _ _ _ (T3.setTop (mkF m 10 #[.val (.ref o), .val (.int (Int32.ofNat n)), .unset, .unset] [(.int (Int32.ofNat sz)), (.int (Int32.ofNat cap)), (.int (Int32.ofNat n))]))
  refine Go.step (fun _ k => XS.isub X3.here hx rfl (hb hby d7_10) rfl k) ?_
  rw [own_sub (by omega) (by omega)]
  show Go _ _ _ _ (T3.setTop (mkF m 11 #[.val (.ref o), .val (.int (Int32.ofNat n)), .unset, .unset] [(.int (Int32.ofNat (cap - sz))), (.int (Int32.ofNat n))]))
  refine Go.step (fun _ k => XS.icmpYes X3.here hx rfl (pc0 := 11) (pc' := 83) rfl (hb hby d7_11) rfl (flt (show ¬ ((Int32.ofNat (cap - sz)) < (Int32.ofNat n)) from (by rw [own_lt (by omega) (by omega)]; omega))).2.2.2 (by decide) (by decide) k) ?_
  show Go _ _ _ _ (T3.setTop (mkF m 83 #[.val (.ref o), .val (.int (Int32.ofNat n)), .unset, .unset] []))
  exact leafV X3 hx hret hlk (hb hby d7_83) ⟨rfl, e3, rfl⟩ (by decide) (by decide)
set_option maxRecDepth 65536 in
set_option maxHeartbeats 40000000 in
theorem rmEb (l : Launch) (Z : State) (a0 : Array Value) (hw : ∀ d ∈ tables_1, d.before a0 Z = true) (ws : List Jvm.Cond)  (h0 : Heap) (o b : Addr) (n n0 : Nat) (vs : List Value) (E0 : Exa Z h0 o "com/example/farcall/farcall/MessageBuffer") (Fb : Fld Z h0 o "com/example/farcall/farcall/MessageBuffer" "bytes" "[B" (.ref b)) (Fs : Fld Z h0 o "com/example/farcall/farcall/MessageBuffer" "size" "I" (.int (Int32.ofNat 0))) (BB : Bv Z h0 b 64 vs) (h64 : 64 < n) (hn : n ≤ 70000) (Z0 : n0 ≤ h0.size) (go : n0 ≤ o) : Con l Z (⟨"com/example/farcall/farcall/MessageBuffer", "ensureRoomFor", "(I)V"⟩ : MethodName) prog_51_method_23_code 4 none ws ({ frames := 2, cells := 1, slots := 70064, locals := 45 } : Room) #[(.ref o), (.int (Int32.ofNat n))] h0 (fun v h L => v = none ∧ Fr n0 L ∧ Keep h0 h [o] ∧ ∃ (b' : Addr) (vs' : List Value), n0 ≤ b' ∧ o ≠ b' ∧ Exa Z h o "com/example/farcall/farcall/MessageBuffer" ∧ Fld Z h o "com/example/farcall/farcall/MessageBuffer" "bytes" "[B" (.ref b') ∧ Fld Z h o "com/example/farcall/farcall/MessageBuffer" "size" "I" (.int (Int32.ofNat 0)) ∧ Bv Z h b' (n + 64) vs') := by
  refine Con.of pn7 fun p e s m below meth c s₁ hZ hx hby hml hown hret hlk hnm X0 e0 => ?_
  rw [ef7]
  show Go _ _ _ _ (s₁.setTop (mkF m 0 #[.val (.ref o), .val (.int (Int32.ofNat n)), .unset, .unset] []))
  refine Go.step (fun _ k => XS.iloadN X0.here hx rfl (hb hby d7_0) rfl k) ?_
  show Go _ _ _ _ (s₁.setTop (mkF m 1 #[.val (.ref o), .val (.int (Int32.ofNat n)), .unset, .unset] [(.int (Int32.ofNat n))]))
  refine Go.step (fun _ k => XS.aloadN X0.here hx rfl (hb hby d7_1) rfl rfl k) ?_
  show Go _ _ _ _ (s₁.setTop (mkF m 2 #[.val (.ref o), .val (.int (Int32.ofNat n)), .unset, .unset] [(.ref o), (.int (Int32.ofNat n))]))
  obtain ⟨T1, X1, e1, st1⟩ := getF X0 hx hZ hown (host := "") (Or.inl (hw _ (List.mem_of_getElem? (i := 17) rfl))) Via.refl e0 Fb (g := (mkF m 2 #[.val (.ref o), .val (.int (Int32.ofNat n)), .unset, .unset] [(.ref o), (.int (Int32.ofNat n))])) rfl rfl (hb hby d7_2)
  refine Go.step st1 ?_
  show Go _ _ _ _ (T1.setTop (mkF m 5 #[.val (.ref o), .val (.int (Int32.ofNat n)), .unset, .unset] [(.ref b), (.int (Int32.ofNat n))]))
  obtain ⟨⟨k2, cl2, Ar2, q2, S2, N2, H2, G2⟩, l2⟩ := id BB
  refine Go.step (fun tg k => X1.arraylength hx (by rw [e1]; exact Ar2.1) (State.isArrayOf_alike hZ.alike Ar2.2.1) (g := (mkF m 5 #[.val (.ref o), .val (.int (Int32.ofNat n)), .unset, .unset] [(.ref b), (.int (Int32.ofNat n))])) rfl rfl (hb hby d7_5) tg k) ?_
  rw [len_of S2 N2]
  show Go _ _ _ _ (T1.setTop (mkF m 6 #[.val (.ref o), .val (.int (Int32.ofNat n)), .unset, .unset] [(.int (Int32.ofNat 64)), (.int (Int32.ofNat n))]))
  refine Go.step (fun _ k => XS.aloadN X1.here hx rfl (hb hby d7_6) rfl rfl k) ?_
  show Go _ _ _ _ (T1.setTop (mkF m 7 #[.val (.ref o), .val (.int (Int32.ofNat n)), .unset, .unset] [(.ref o), (.int (Int32.ofNat 64)), (.int (Int32.ofNat n))]))
  obtain ⟨T3, X3, e3, st3⟩ := getF X1 hx hZ hown (host := "") (Or.inl (hw _ (List.mem_of_getElem? (i := 36) rfl))) Via.refl e1 Fs (g := (mkF m 7 #[.val (.ref o), .val (.int (Int32.ofNat n)), .unset, .unset] [(.ref o), (.int (Int32.ofNat 64)), (.int (Int32.ofNat n))])) rfl rfl (hb hby d7_7)
  refine Go.step st3 ?_
  show Go _ _ _ _ (T3.setTop (mkF m 10 #[.val (.ref o), .val (.int (Int32.ofNat n)), .unset, .unset] [(.int (Int32.ofNat 0)), (.int (Int32.ofNat 64)), (.int (Int32.ofNat n))]))
  refine Go.step (fun _ k => XS.isub X3.here hx rfl (hb hby d7_10) rfl k) ?_
  rw [own_sub (by omega) (by omega)]
  show Go _ _ _ _ (T3.setTop (mkF m 11 #[.val (.ref o), .val (.int (Int32.ofNat n)), .unset, .unset] [(.int (Int32.ofNat (64 - 0))), (.int (Int32.ofNat n))]))
  refine Go.step (fun _ k => XS.icmpNo X3.here hx rfl (hb hby d7_11) rfl (tlt ((own_lt (by omega) (by omega)).mpr (by omega))).2.2.2 k) ?_
  show Go _ _ _ _ (T3.setTop (mkF m 14 #[.val (.ref o), .val (.int (Int32.ofNat n)), .unset, .unset] []))
  refine Go.step (fun _ k => XS.iloadN X3.here hx rfl (hb hby d7_14) rfl k) ?_
  show Go _ _ _ _ (T3.setTop (mkF m 15 #[.val (.ref o), .val (.int (Int32.ofNat n)), .unset, .unset] [(.int (Int32.ofNat n))]))
  refine Go.step (X3.ldcInt hx hown (mvT hZ (hw _ (List.mem_of_getElem? (i := 38) rfl))) (g := (mkF m 15 #[.val (.ref o), .val (.int (Int32.ofNat n)), .unset, .unset] [(.int (Int32.ofNat n))])) rfl (hb hby d7_15)) ?_
  show Go _ _ _ _ (T3.setTop (mkF m 17 #[.val (.ref o), .val (.int (Int32.ofNat n)), .unset, .unset] [(.int (2147483639 : Int32)), (.int (Int32.ofNat n))]))
  refine Go.step (fun _ k => XS.aloadN X3.here hx rfl (hb hby d7_17) rfl rfl k) ?_
  show Go _ _ _ _ (T3.setTop (mkF m 18 #[.val (.ref o), .val (.int (Int32.ofNat n)), .unset, .unset] [(.ref o), (.int (2147483639 : Int32)), (.int (Int32.ofNat n))]))
  obtain ⟨T4, X4, e4, st4⟩ := getF X3 hx hZ hown (host := "") (Or.inl (hw _ (List.mem_of_getElem? (i := 36) rfl))) Via.refl e3 Fs (g := (mkF m 18 #[.val (.ref o), .val (.int (Int32.ofNat n)), .unset, .unset] [(.ref o), (.int (2147483639 : Int32)), (.int (Int32.ofNat n))])) rfl rfl (hb hby d7_18)
  refine Go.step st4 ?_
  show Go _ _ _ _ (T4.setTop (mkF m 21 #[.val (.ref o), .val (.int (Int32.ofNat n)), .unset, .unset] [(.int (Int32.ofNat 0)), (.int (2147483639 : Int32)), (.int (Int32.ofNat n))]))
  refine Go.step (fun _ k => XS.isub X4.here hx rfl (hb hby d7_21) rfl k) ?_
  show Go _ _ _ _ (T4.setTop (mkF m 22 #[.val (.ref o), .val (.int (Int32.ofNat n)), .unset, .unset] [(.int ((2147483639 : Int32) - (Int32.ofNat 0))), (.int (Int32.ofNat n))]))
  refine Go.step (fun _ k => XS.icmpYes X4.here hx rfl (pc0 := 22) (pc' := 35) rfl (hb hby d7_22) rfl (flt (show ¬ (((2147483639 : Int32) - (Int32.ofNat 0)) < (Int32.ofNat n)) from (by rw [show ((2147483639 : Int32) - (Int32.ofNat 0)) = Int32.ofNat 2147483639 from by decide, own_lt (by omega) (by omega)]; omega))).2.2.2 (by decide) (by decide) k) ?_
  show Go _ _ _ _ (T4.setTop (mkF m 35 #[.val (.ref o), .val (.int (Int32.ofNat n)), .unset, .unset] []))
  refine Go.step (X4.ldc2Long hx hown (mvT hZ (hw _ (List.mem_of_getElem? (i := 39) rfl))) (g := (mkF m 35 #[.val (.ref o), .val (.int (Int32.ofNat n)), .unset, .unset] [])) rfl (hb hby d7_35)) ?_
  show Go _ _ _ _ (T4.setTop (mkF m 38 #[.val (.ref o), .val (.int (Int32.ofNat n)), .unset, .unset] [(.long (2 : Int64))]))
  refine Go.step (fun _ k => XS.aloadN X4.here hx rfl (hb hby d7_38) rfl rfl k) ?_
  show Go _ _ _ _ (T4.setTop (mkF m 39 #[.val (.ref o), .val (.int (Int32.ofNat n)), .unset, .unset] [(.ref o), (.long (2 : Int64))]))
  obtain ⟨T5, X5, e5, st5⟩ := getF X4 hx hZ hown (host := "") (Or.inl (hw _ (List.mem_of_getElem? (i := 17) rfl))) Via.refl e4 Fb (g := (mkF m 39 #[.val (.ref o), .val (.int (Int32.ofNat n)), .unset, .unset] [(.ref o), (.long (2 : Int64))])) rfl rfl (hb hby d7_39)
  refine Go.step st5 ?_
  show Go _ _ _ _ (T5.setTop (mkF m 42 #[.val (.ref o), .val (.int (Int32.ofNat n)), .unset, .unset] [(.ref b), (.long (2 : Int64))]))
  obtain ⟨⟨k6, cl6, Ar6, q6, S6, N6, H6, G6⟩, l6⟩ := id BB
  refine Go.step (fun tg k => X5.arraylength hx (by rw [e5]; exact Ar6.1) (State.isArrayOf_alike hZ.alike Ar6.2.1) (g := (mkF m 42 #[.val (.ref o), .val (.int (Int32.ofNat n)), .unset, .unset] [(.ref b), (.long (2 : Int64))])) rfl rfl (hb hby d7_42) tg k) ?_
  rw [len_of S6 N6]
  show Go _ _ _ _ (T5.setTop (mkF m 43 #[.val (.ref o), .val (.int (Int32.ofNat n)), .unset, .unset] [(.int (Int32.ofNat 64)), (.long (2 : Int64))]))
  refine Go.step (fun _ k => XS.i2l X5.here hx rfl (hb hby d7_43) rfl k) ?_
  show Go _ _ _ _ (T5.setTop (mkF m 44 #[.val (.ref o), .val (.int (Int32.ofNat n)), .unset, .unset] [(.long ((Int32.ofNat 64).toInt64)), (.long (2 : Int64))]))
  refine Go.step (fun _ k => XS.lmul X5.here hx rfl (hb hby d7_44) rfl k) ?_
  show Go _ _ _ _ (T5.setTop (mkF m 45 #[.val (.ref o), .val (.int (Int32.ofNat n)), .unset, .unset] [(.long ((2 : Int64) * ((Int32.ofNat 64).toInt64)))]))
  refine Go.step (fun _ k => XS.aloadN X5.here hx rfl (hb hby d7_45) rfl rfl k) ?_
  show Go _ _ _ _ (T5.setTop (mkF m 46 #[.val (.ref o), .val (.int (Int32.ofNat n)), .unset, .unset] [(.ref o), (.long ((2 : Int64) * ((Int32.ofNat 64).toInt64)))]))
  obtain ⟨T7, X7, e7, st7⟩ := getF X5 hx hZ hown (host := "") (Or.inl (hw _ (List.mem_of_getElem? (i := 36) rfl))) Via.refl e5 Fs (g := (mkF m 46 #[.val (.ref o), .val (.int (Int32.ofNat n)), .unset, .unset] [(.ref o), (.long ((2 : Int64) * ((Int32.ofNat 64).toInt64)))])) rfl rfl (hb hby d7_46)
  refine Go.step st7 ?_
  show Go _ _ _ _ (T7.setTop (mkF m 49 #[.val (.ref o), .val (.int (Int32.ofNat n)), .unset, .unset] [(.int (Int32.ofNat 0)), (.long ((2 : Int64) * ((Int32.ofNat 64).toInt64)))]))
  refine Go.step (fun _ k => XS.i2l X7.here hx rfl (hb hby d7_49) rfl k) ?_
  show Go _ _ _ _ (T7.setTop (mkF m 50 #[.val (.ref o), .val (.int (Int32.ofNat n)), .unset, .unset] [(.long ((Int32.ofNat 0).toInt64)), (.long ((2 : Int64) * ((Int32.ofNat 64).toInt64)))]))
  refine Go.step (fun _ k => XS.iloadN X7.here hx rfl (hb hby d7_50) rfl k) ?_
  show Go _ _ _ _ (T7.setTop (mkF m 51 #[.val (.ref o), .val (.int (Int32.ofNat n)), .unset, .unset] [(.int (Int32.ofNat n)), (.long ((Int32.ofNat 0).toInt64)), (.long ((2 : Int64) * ((Int32.ofNat 64).toInt64)))]))
  refine Go.step (fun _ k => XS.i2l X7.here hx rfl (hb hby d7_51) rfl k) ?_
  show Go _ _ _ _ (T7.setTop (mkF m 52 #[.val (.ref o), .val (.int (Int32.ofNat n)), .unset, .unset] [(.long ((Int32.ofNat n).toInt64)), (.long ((Int32.ofNat 0).toInt64)), (.long ((2 : Int64) * ((Int32.ofNat 64).toInt64)))]))
  refine Go.step (fun _ k => XS.ladd X7.here hx rfl (hb hby d7_52) rfl k) ?_
  show Go _ _ _ _ (T7.setTop (mkF m 53 #[.val (.ref o), .val (.int (Int32.ofNat n)), .unset, .unset] [(.long (((Int32.ofNat 0).toInt64) + ((Int32.ofNat n).toInt64))), (.long ((2 : Int64) * ((Int32.ofNat 64).toInt64)))]))
  refine Go.step (fun _ k => XS.aloadN X7.here hx rfl (hb hby d7_53) rfl rfl k) ?_
  show Go _ _ _ _ (T7.setTop (mkF m 54 #[.val (.ref o), .val (.int (Int32.ofNat n)), .unset, .unset] [(.ref o), (.long (((Int32.ofNat 0).toInt64) + ((Int32.ofNat n).toInt64))), (.long ((2 : Int64) * ((Int32.ofNat 64).toInt64)))]))
  obtain ⟨T8, X8, e8, st8⟩ := getF X7 hx hZ hown (host := "") (Or.inl (hw _ (List.mem_of_getElem? (i := 17) rfl))) Via.refl e7 Fb (g := (mkF m 54 #[.val (.ref o), .val (.int (Int32.ofNat n)), .unset, .unset] [(.ref o), (.long (((Int32.ofNat 0).toInt64) + ((Int32.ofNat n).toInt64))), (.long ((2 : Int64) * ((Int32.ofNat 64).toInt64)))])) rfl rfl (hb hby d7_54)
  refine Go.step st8 ?_
  show Go _ _ _ _ (T8.setTop (mkF m 57 #[.val (.ref o), .val (.int (Int32.ofNat n)), .unset, .unset] [(.ref b), (.long (((Int32.ofNat 0).toInt64) + ((Int32.ofNat n).toInt64))), (.long ((2 : Int64) * ((Int32.ofNat 64).toInt64)))]))
  obtain ⟨⟨k9, cl9, Ar9, q9, S9, N9, H9, G9⟩, l9⟩ := id BB
  refine Go.step (fun tg k => X8.arraylength hx (by rw [e8]; exact Ar9.1) (State.isArrayOf_alike hZ.alike Ar9.2.1) (g := (mkF m 57 #[.val (.ref o), .val (.int (Int32.ofNat n)), .unset, .unset] [(.ref b), (.long (((Int32.ofNat 0).toInt64) + ((Int32.ofNat n).toInt64))), (.long ((2 : Int64) * ((Int32.ofNat 64).toInt64)))])) rfl rfl (hb hby d7_57) tg k) ?_
  rw [len_of S9 N9]
  show Go _ _ _ _ (T8.setTop (mkF m 58 #[.val (.ref o), .val (.int (Int32.ofNat n)), .unset, .unset] [(.int (Int32.ofNat 64)), (.long (((Int32.ofNat 0).toInt64) + ((Int32.ofNat n).toInt64))), (.long ((2 : Int64) * ((Int32.ofNat 64).toInt64)))]))
  refine Go.step (fun _ k => XS.i2l X8.here hx rfl (hb hby d7_58) rfl k) ?_
  show Go _ _ _ _ (T8.setTop (mkF m 59 #[.val (.ref o), .val (.int (Int32.ofNat n)), .unset, .unset] [(.long ((Int32.ofNat 64).toInt64)), (.long (((Int32.ofNat 0).toInt64) + ((Int32.ofNat n).toInt64))), (.long ((2 : Int64) * ((Int32.ofNat 64).toInt64)))]))
  refine Go.step (fun _ k => XS.ladd X8.here hx rfl (hb hby d7_59) rfl k) ?_
  show Go _ _ _ _ (T8.setTop (mkF m 60 #[.val (.ref o), .val (.int (Int32.ofNat n)), .unset, .unset] [(.long ((((Int32.ofNat 0).toInt64) + ((Int32.ofNat n).toInt64)) + ((Int32.ofNat 64).toInt64))), (.long ((2 : Int64) * ((Int32.ofNat 64).toInt64)))]))
  refine goS X8 hx hZ hown (hw _ (List.mem_of_getElem? (i := 40) rfl)) (hw _ (List.mem_of_getElem? (i := 41) rfl)) (hw _ (List.mem_of_getElem? (i := 42) rfl)) (hw _ (List.mem_of_getElem? (i := 43) rfl)) (by decide) (rm8 l Z a0 hw [] ((2 : Int64) * ((Int32.ofNat 64).toInt64)) ((((Int32.ofNat 0).toInt64) + ((Int32.ofNat n).toInt64)) + ((Int32.ofNat 64).toInt64)) _) e8 (by rw [hml]; rfl) [(.long ((2 : Int64) * ((Int32.ofNat 64).toInt64))), (.long ((((Int32.ofNat 0).toInt64) + ((Int32.ofNat n).toInt64)) + ((Int32.ofNat 64).toInt64)))] [] rfl pd8 rfl rfl 0 rfl (hb hby d7_60) (by decide) (by decide) (by decide) (by decide) fun T10 L10 v10 q10 X10 => ?_
  obtain ⟨rfl, e10, rfl⟩ := q10
  rw [List.append_nil] at X10
  show Go _ _ _ _ (T10.setTop (mkF m 63 #[.val (.ref o), .val (.int (Int32.ofNat n)), .unset, .unset] [(.long (own_maxL ((2 : Int64) * ((Int32.ofNat 64).toInt64)) ((((Int32.ofNat 0).toInt64) + ((Int32.ofNat n).toInt64)) + ((Int32.ofNat 64).toInt64))))]))
  refine Go.step (fun _ k => XS.lstoreN X10.here hx rfl (hb hby d7_63) rfl (l' := #[.val (.ref o), .val (.int (Int32.ofNat n)), .val (.long (own_maxL ((2 : Int64) * ((Int32.ofNat 64).toInt64)) ((((Int32.ofNat 0).toInt64) + ((Int32.ofNat n).toInt64)) + ((Int32.ofNat 64).toInt64)))), .second]) rfl k) ?_
  show Go _ _ _ _ (T10.setTop (mkF m 64 #[.val (.ref o), .val (.int (Int32.ofNat n)), .val (.long (own_maxL ((2 : Int64) * ((Int32.ofNat 64).toInt64)) ((((Int32.ofNat 0).toInt64) + ((Int32.ofNat n).toInt64)) + ((Int32.ofNat 64).toInt64)))), .second] []))
  refine Go.step (fun _ k => XS.aloadN X10.here hx rfl (hb hby d7_64) rfl rfl k) ?_
  show Go _ _ _ _ (T10.setTop (mkF m 65 #[.val (.ref o), .val (.int (Int32.ofNat n)), .val (.long (own_maxL ((2 : Int64) * ((Int32.ofNat 64).toInt64)) ((((Int32.ofNat 0).toInt64) + ((Int32.ofNat n).toInt64)) + ((Int32.ofNat 64).toInt64)))), .second] [(.ref o)]))
  refine Go.step (fun _ k => XS.aloadN X10.here hx rfl (hb hby d7_65) rfl rfl k) ?_
  show Go _ _ _ _ (T10.setTop (mkF m 66 #[.val (.ref o), .val (.int (Int32.ofNat n)), .val (.long (own_maxL ((2 : Int64) * ((Int32.ofNat 64).toInt64)) ((((Int32.ofNat 0).toInt64) + ((Int32.ofNat n).toInt64)) + ((Int32.ofNat 64).toInt64)))), .second] [(.ref o), (.ref o)]))
  obtain ⟨T11, X11, e11, st11⟩ := getF X10 hx hZ hown (host := "") (Or.inl (hw _ (List.mem_of_getElem? (i := 17) rfl))) Via.refl e10 Fb (g := (mkF m 66 #[.val (.ref o), .val (.int (Int32.ofNat n)), .val (.long (own_maxL ((2 : Int64) * ((Int32.ofNat 64).toInt64)) ((((Int32.ofNat 0).toInt64) + ((Int32.ofNat n).toInt64)) + ((Int32.ofNat 64).toInt64)))), .second] [(.ref o), (.ref o)])) rfl rfl (hb hby d7_66)
  refine Go.step st11 ?_
  show Go _ _ _ _ (T11.setTop (mkF m 69 #[.val (.ref o), .val (.int (Int32.ofNat n)), .val (.long (own_maxL ((2 : Int64) * ((Int32.ofNat 64).toInt64)) ((((Int32.ofNat 0).toInt64) + ((Int32.ofNat n).toInt64)) + ((Int32.ofNat 64).toInt64)))), .second] [(.ref b), (.ref o)]))
  refine Go.step (fun _ k => XS.lloadN X11.here hx rfl (hb hby d7_69) rfl k) ?_
  show Go _ _ _ _ (T11.setTop (mkF m 70 #[.val (.ref o), .val (.int (Int32.ofNat n)), .val (.long (own_maxL ((2 : Int64) * ((Int32.ofNat 64).toInt64)) ((((Int32.ofNat 0).toInt64) + ((Int32.ofNat n).toInt64)) + ((Int32.ofNat 64).toInt64)))), .second] [(.long (own_maxL ((2 : Int64) * ((Int32.ofNat 64).toInt64)) ((((Int32.ofNat 0).toInt64) + ((Int32.ofNat n).toInt64)) + ((Int32.ofNat 64).toInt64)))), (.ref b), (.ref o)]))
  refine Go.step (X11.ldc2Long hx hown (mvT hZ (hw _ (List.mem_of_getElem? (i := 44) rfl))) (g := (mkF m 70 #[.val (.ref o), .val (.int (Int32.ofNat n)), .val (.long (own_maxL ((2 : Int64) * ((Int32.ofNat 64).toInt64)) ((((Int32.ofNat 0).toInt64) + ((Int32.ofNat n).toInt64)) + ((Int32.ofNat 64).toInt64)))), .second] [(.long (own_maxL ((2 : Int64) * ((Int32.ofNat 64).toInt64)) ((((Int32.ofNat 0).toInt64) + ((Int32.ofNat n).toInt64)) + ((Int32.ofNat 64).toInt64)))), (.ref b), (.ref o)])) rfl (hb hby d7_70)) ?_
  show Go _ _ _ _ (T11.setTop (mkF m 73 #[.val (.ref o), .val (.int (Int32.ofNat n)), .val (.long (own_maxL ((2 : Int64) * ((Int32.ofNat 64).toInt64)) ((((Int32.ofNat 0).toInt64) + ((Int32.ofNat n).toInt64)) + ((Int32.ofNat 64).toInt64)))), .second] [(.long (2147483639 : Int64)), (.long (own_maxL ((2 : Int64) * ((Int32.ofNat 64).toInt64)) ((((Int32.ofNat 0).toInt64) + ((Int32.ofNat n).toInt64)) + ((Int32.ofNat 64).toInt64)))), (.ref b), (.ref o)]))
  refine goS X11 hx hZ hown (hw _ (List.mem_of_getElem? (i := 45) rfl)) (hw _ (List.mem_of_getElem? (i := 46) rfl)) (hw _ (List.mem_of_getElem? (i := 42) rfl)) (hw _ (List.mem_of_getElem? (i := 47) rfl)) (by decide) (rm9 l Z a0 hw [] (own_maxL ((2 : Int64) * ((Int32.ofNat 64).toInt64)) ((((Int32.ofNat 0).toInt64) + ((Int32.ofNat n).toInt64)) + ((Int32.ofNat 64).toInt64))) (2147483639 : Int64) _) e11 (by rw [hml]; rfl) [(.long (own_maxL ((2 : Int64) * ((Int32.ofNat 64).toInt64)) ((((Int32.ofNat 0).toInt64) + ((Int32.ofNat n).toInt64)) + ((Int32.ofNat 64).toInt64)))), (.long (2147483639 : Int64))] [(.ref b), (.ref o)] rfl pd9 rfl rfl 2 rfl (hb hby d7_73) (by decide) (by decide) (by decide) (by decide) fun T12 L12 v12 q12 X12 => ?_
  obtain ⟨rfl, e12, rfl⟩ := q12
  rw [List.append_nil] at X12
  show Go _ _ _ _ (T12.setTop (mkF m 76 #[.val (.ref o), .val (.int (Int32.ofNat n)), .val (.long (own_maxL ((2 : Int64) * ((Int32.ofNat 64).toInt64)) ((((Int32.ofNat 0).toInt64) + ((Int32.ofNat n).toInt64)) + ((Int32.ofNat 64).toInt64)))), .second] [(.long (own_minL (own_maxL ((2 : Int64) * ((Int32.ofNat 64).toInt64)) ((((Int32.ofNat 0).toInt64) + ((Int32.ofNat n).toInt64)) + ((Int32.ofNat 64).toInt64))) (2147483639 : Int64))), (.ref b), (.ref o)]))
  refine Go.step (fun _ k => XS.l2i X12.here hx rfl (hb hby d7_76) rfl k) ?_
  rw [own_grow h64 (by omega)]
  show Go _ _ _ _ (T12.setTop (mkF m 77 #[.val (.ref o), .val (.int (Int32.ofNat n)), .val (.long (own_maxL ((2 : Int64) * ((Int32.ofNat 64).toInt64)) ((((Int32.ofNat 0).toInt64) + ((Int32.ofNat n).toInt64)) + ((Int32.ofNat 64).toInt64)))), .second] [(.int (Int32.ofNat (n + 64))), (.ref b), (.ref o)]))
  refine goS X12 hx hZ hown (hw _ (List.mem_of_getElem? (i := 48) rfl)) (hw _ (List.mem_of_getElem? (i := 49) rfl)) (hw _ (List.mem_of_getElem? (i := 50) rfl)) (hw _ (List.mem_of_getElem? (i := 51) rfl)) (by decide) (rm10 l Z a0 hw [] h0 b (n + 64) 64 70064 n0 vs BB (by omega) (by omega) (by omega) (by decide) Z0) e12 (by rw [hml]; rfl) [.ref b, .int (Int32.ofNat (n + 64))] [.ref o] rfl pd10 rfl rfl 1 rfl (hb hby d7_77) (by decide) (by decide) (by decide) (by decide) fun TC LC vC qC XC => ?_
  obtain ⟨b', rfl, NC, KC, gC, gC', vs', BC, -⟩ := qC
  have Fb1 := Fb.keep KC nin0
  have Fs1 := Fs.keep KC nin0
  have E1 := E0.keep KC
  have nob : o ≠ b' := Nat.ne_of_lt (Nat.lt_of_lt_of_le E0.lt gC')
  show Go _ _ _ _ (TC.setTop (mkF m 80 #[.val (.ref o), .val (.int (Int32.ofNat n)), .val (.long (own_maxL ((2 : Int64) * ((Int32.ofNat 64).toInt64)) ((((Int32.ofNat 0).toInt64) + ((Int32.ofNat n).toInt64)) + ((Int32.ofNat 64).toInt64)))), .second] [(.ref b'), (.ref o)]))
  obtain ⟨T13, h13, X13, e13, W13, st13⟩ := putF XC hx hZ hown (host := "") (Or.inl (hw _ (List.mem_of_getElem? (i := 17) rfl))) Via.refl rfl Fb1 E1 (Or.inl (hw _ (List.mem_of_getElem? (i := 18) rfl))) (hw _ (List.mem_of_getElem? (i := 4) rfl)) (ty := (.array .byte)) (by decide) rfl rfl (g := (mkF m 80 #[.val (.ref o), .val (.int (Int32.ofNat n)), .val (.long (own_maxL ((2 : Int64) * ((Int32.ofNat 64).toInt64)) ((((Int32.ofNat 0).toInt64) + ((Int32.ofNat n).toInt64)) + ((Int32.ofNat 64).toInt64)))), .second] [(.ref b'), (.ref o)])) rfl rfl (hb hby d7_80)
  have F13_bytes := Fb1.same W13
  have F13_size := Fs1.other W13 (Or.inr (slot_ne (Or.inl (hw _ (List.mem_of_getElem? (i := 37) rfl))) (Or.inl (hw _ (List.mem_of_getElem? (i := 18) rfl))) (by decide) (t := .int) (t' := (.array .byte)) (by decide) (by decide)))
  have E_13 := E1.wr W13
  have NF13 := Fr.snoc X13 (Fr.app (Fr.nil n0) NC) go
  refine Go.step st13 ?_
  have BC1 : Bv Z h13 b' (n + 64) vs' := BC.keep (Keep.of_wr W13) (ninS (Ne.symm nob) nin0)
  have KE : Keep h0 h13 [o] := (own_weak KC : Keep h0 TC.heap [o]).wr W13 (Or.inl (List.mem_of_getElem? (i := 0) rfl))
  show Go _ _ _ _ (T13.setTop (mkF m 83 #[.val (.ref o), .val (.int (Int32.ofNat n)), .val (.long (own_maxL ((2 : Int64) * ((Int32.ofNat 64).toInt64)) ((((Int32.ofNat 0).toInt64) + ((Int32.ofNat n).toInt64)) + ((Int32.ofNat 64).toInt64)))), .second] []))
  exact leafV X13 hx hret hlk (hb hby d7_83) ⟨rfl, NF13, by rw [e13]; exact KE, b', vs', gC, nob, by rw [e13]; exact E_13, by rw [e13]; exact F13_bytes, by rw [e13]; exact F13_size, by rw [e13]; exact BC1⟩ (by decide) (by decide)
def Mb (Z : State) (h : Heap) (o : Addr) (n0 cap sz : Nat) : Prop := ∃ (b : Addr) (vs : List Value), n0 ≤ b ∧ o ≠ b ∧ Exa Z h o "com/example/farcall/farcall/MessageBuffer" ∧ Fld Z h o "com/example/farcall/farcall/MessageBuffer" "bytes" "[B" (.ref b) ∧ Fld Z h o "com/example/farcall/farcall/MessageBuffer" "size" "I" (.int (Int32.ofNat sz)) ∧ Bv Z h b cap vs
theorem d1_0 : decode prog_51_method_1_code 0 = .ok (.aload_n 0, 1) := by decide +kernel
theorem d1_1 : decode prog_51_method_1_code 1 = .ok (.invokespecial 3, 3) := by decide +kernel
theorem d1_4 : decode prog_51_method_1_code 4 = .ok (.aload_n 0, 1) := by decide +kernel
theorem d1_5 : decode prog_51_method_1_code 5 = .ok (.bipush 64, 2) := by decide +kernel
theorem d1_7 : decode prog_51_method_1_code 7 = .ok (.newarray .byte, 2) := by decide +kernel
theorem d1_9 : decode prog_51_method_1_code 9 = .ok (.putfield 11, 3) := by decide +kernel
theorem d1_12 : decode prog_51_method_1_code 12 = .ok (.return_, 1) := by decide +kernel
theorem pn1 : plainFor (⟨"com/example/farcall/farcall/MessageBuffer", "<init>", "()V"⟩ : MethodName) = true := plainFor_of_name (by first | (simp [plainName, overriddenIn]; done) | decide +kernel)
theorem pd1 : parseMethodDescriptor "()V" = some ⟨[], none⟩ := by decide +kernel
theorem ef1 (m : MethodId) (y0 : Addr) : entryFrame m #[(.ref y0)] 1 = mkF m 0 #[.val (.ref y0)] [] := by first | (simp [entryFrame, mkF, argsToLocals, Value.category]; done) | rfl
set_option maxRecDepth 65536 in
set_option maxHeartbeats 40000000 in
theorem rmI (l : Launch) (Z : State) (a0 : Array Value) (hw : ∀ d ∈ tables_1, d.before a0 Z = true) (ws : List Jvm.Cond)  (h0 : Heap) (o : Addr) (n0 : Nat) (Z0 : n0 ≤ h0.size) (go : n0 ≤ o) (E0 : Exa Z h0 o "com/example/farcall/farcall/MessageBuffer") (Fb0 : Fld Z h0 o "com/example/farcall/farcall/MessageBuffer" "bytes" "[B" .null) (Fs0 : Fld Z h0 o "com/example/farcall/farcall/MessageBuffer" "size" "I" (.int (0 : Int32))) : Con l Z (⟨"com/example/farcall/farcall/MessageBuffer", "<init>", "()V"⟩ : MethodName) prog_51_method_1_code 1 none ws ({ frames := 2, cells := 1, slots := 64, locals := 24 } : Room) #[(.ref o)] h0 (fun v h L => v = none ∧ Fr n0 L ∧ Keep h0 h [o] ∧ Mb Z h o n0 64 0) := by
  refine Con.of pn1 fun p e s m below meth c s₁ hZ hx hby hml hown hret hlk hnm X0 e0 => ?_
  rw [ef1]
  show Go _ _ _ _ (s₁.setTop (mkF m 0 #[.val (.ref o)] []))
  refine Go.step (fun _ k => XS.aloadN X0.here hx rfl (hb hby d1_0) rfl rfl k) ?_
  show Go _ _ _ _ (s₁.setTop (mkF m 1 #[.val (.ref o)] [(.ref o)]))
  refine goI X0 hx hZ rfl hown (hw _ (List.mem_of_getElem? (i := 9) rfl)) (hw _ (List.mem_of_getElem? (i := 10) rfl)) (hw _ (List.mem_of_getElem? (i := 12) rfl)) (hw _ (List.mem_of_getElem? (i := 13) rfl)) (by decide) (rm2 l Z a0 hw [] h0 o) e0 (by rw [hml]; rfl) o [] [] rfl pd2 rfl rfl 0 rfl (hb hby d1_1) (by decide) (by decide) (by decide) (by decide) fun T1 L1 v1 q1 X1 => ?_
  obtain ⟨rfl, e1, rfl⟩ := q1
  rw [List.append_nil] at X1
  show Go _ _ _ _ (T1.setTop (mkF m 4 #[.val (.ref o)] []))
  refine Go.step (fun _ k => XS.aloadN X1.here hx rfl (hb hby d1_4) rfl rfl k) ?_
  show Go _ _ _ _ (T1.setTop (mkF m 5 #[.val (.ref o)] [(.ref o)]))
  refine Go.step (fun _ k => XS.bipush X1.here hx rfl (hb hby d1_5) k) ?_
  show Go _ _ _ _ (T1.setTop (mkF m 7 #[.val (.ref o)] [(.int (64 : Int32)), (.ref o)]))
  obtain ⟨T2, h2, kN, X2, e2, E2, A2, st2⟩ := newP X1 hx hZ (hw _ (List.mem_of_getElem? (i := 1) rfl)) e1 (g := (mkF m 7 #[.val (.ref o)] [(.int (64 : Int32)), (.ref o)])) rfl (hb hby d1_7) rfl (by decide) (cap := 64) (by decide) (by decide) (by decide) (by decide)
  obtain ⟨b, gb⟩ : ∃ z, z = h0.size := ⟨_, rfl⟩
  rw [← gb] at A2 st2
  have BN : Bv Z h2 b 64 (List.replicate 64 (.int 0)) := Bv.fresh A2 (by omega)
  have nob : o ≠ b := Nat.ne_of_lt (Nat.lt_of_lt_of_le E0.lt (Nat.le_of_eq gb.symm))
  have gn : n0 ≤ b := Nat.le_trans Z0 (Nat.le_of_eq gb.symm)
  have KN : Keep h0 h2 [o] := (Keep.refl h0 [o]).ext E2
  have FX2_bytes := Fb0.ext E2
  have FX2_size := Fs0.ext E2
  have EO2 := E0.ext E2
  refine Go.step st2 ?_
  show Go _ _ _ _ (T2.setTop (mkF m 9 #[.val (.ref o)] [(.ref b), (.ref o)]))
  obtain ⟨T3, h3, X3, e3, W3, st3⟩ := putF X2 hx hZ hown (host := "") (Or.inl (hw _ (List.mem_of_getElem? (i := 17) rfl))) Via.refl e2 FX2_bytes EO2 (Or.inl (hw _ (List.mem_of_getElem? (i := 18) rfl))) (hw _ (List.mem_of_getElem? (i := 4) rfl)) (ty := (.array .byte)) (by decide) rfl rfl (g := (mkF m 9 #[.val (.ref o)] [(.ref b), (.ref o)])) rfl rfl (hb hby d1_9)
  have F3_bytes := FX2_bytes.same W3
  have F3_size := FX2_size.other W3 (Or.inr (slot_ne (Or.inl (hw _ (List.mem_of_getElem? (i := 37) rfl))) (Or.inl (hw _ (List.mem_of_getElem? (i := 18) rfl))) (by decide) (t := .int) (t' := (.array .byte)) (by decide) (by decide)))
  have E_3 := EO2.wr W3
  have NF3 := Fr.snoc X3 (Fr.nil n0) go
  refine Go.step st3 ?_
  have KW3 : Keep h0 h3 [o] := KN.wr W3 (Or.inl (List.mem_of_getElem? (i := 0) rfl))
  have BN3 := BN.keep (Keep.of_wr W3) (ninS (Ne.symm nob) nin0)
  show Go _ _ _ _ (T3.setTop (mkF m 12 #[.val (.ref o)] []))
  exact leafV X3 hx hret hlk (hb hby d1_12) ⟨rfl, NF3, by rw [e3]; exact KW3, b, _, gn, nob, by rw [e3]; exact E_3, by rw [e3]; exact F3_bytes, by rw [e3]; exact F3_size, by rw [e3]; exact BN3⟩ (by decide) (by decide)
theorem d13_0 : decode prog_51_method_16_code 0 = .ok (.aload_n 0, 1) := by decide +kernel
theorem d13_1 : decode prog_51_method_16_code 1 = .ok (.iconst 0, 1) := by decide +kernel
theorem d13_2 : decode prog_51_method_16_code 2 = .ok (.putfield 19, 3) := by decide +kernel
theorem d13_5 : decode prog_51_method_16_code 5 = .ok (.aload_n 0, 1) := by decide +kernel
theorem d13_6 : decode prog_51_method_16_code 6 = .ok (.getfield 11, 3) := by decide +kernel
theorem d13_9 : decode prog_51_method_16_code 9 = .ok (.arraylength, 1) := by decide +kernel
theorem d13_10 : decode prog_51_method_16_code 10 = .ok (.ldc 92, 2) := by decide +kernel
theorem d13_12 : decode prog_51_method_16_code 12 = .ok (.if_icmp .le 11, 3) := by decide +kernel
theorem d13_15 : decode prog_51_method_16_code 15 = .ok (.aload_n 0, 1) := by decide +kernel
theorem d13_16 : decode prog_51_method_16_code 16 = .ok (.bipush 64, 2) := by decide +kernel
theorem d13_18 : decode prog_51_method_16_code 18 = .ok (.newarray .byte, 2) := by decide +kernel
theorem d13_20 : decode prog_51_method_16_code 20 = .ok (.putfield 11, 3) := by decide +kernel
theorem d13_23 : decode prog_51_method_16_code 23 = .ok (.return_, 1) := by decide +kernel
theorem pn13 : plainFor (⟨"com/example/farcall/farcall/MessageBuffer", "reset", "()V"⟩ : MethodName) = true := plainFor_of_name (by first | (simp [plainName, overriddenIn]; done) | decide +kernel)
theorem pd13 : parseMethodDescriptor "()V" = some ⟨[], none⟩ := by decide +kernel
theorem ef13 (m : MethodId) (y0 : Addr) : entryFrame m #[(.ref y0)] 1 = mkF m 0 #[.val (.ref y0)] [] := by first | (simp [entryFrame, mkF, argsToLocals, Value.category]; done) | rfl
set_option maxRecDepth 65536 in
set_option maxHeartbeats 40000000 in
theorem rmR (l : Launch) (Z : State) (a0 : Array Value) (hw : ∀ d ∈ tables_1, d.before a0 Z = true) (ws : List Jvm.Cond)  (h0 : Heap) (o : Addr) (n0 cap sz : Nat) (Z0 : n0 ≤ h0.size) (go : n0 ≤ o) (hc1 : 64 ≤ cap) (hc2 : cap ≤ 70064) (M : Mb Z h0 o n0 cap sz) : Con l Z (⟨"com/example/farcall/farcall/MessageBuffer", "reset", "()V"⟩ : MethodName) prog_51_method_16_code 1 none ws ({ frames := 0, cells := 1, slots := 64, locals := 0 } : Room) #[(.ref o)] h0 (fun v h L => v = none ∧ Fr n0 L ∧ ∃ cap', 64 ≤ cap' ∧ cap' ≤ 70064 ∧ Mb Z h o n0 cap' 0) := by
  refine Con.of pn13 fun p e s m below meth c s₁ hZ hx hby hml hown hret hlk hnm X0 e0 => ?_
  rw [ef13]
  obtain ⟨b0, vs0, gb0, nob0, E0, Fb0, Fs0, BB0⟩ := M
  show Go _ _ _ _ (s₁.setTop (mkF m 0 #[.val (.ref o)] []))
  refine Go.step (fun _ k => XS.aloadN X0.here hx rfl (hb hby d13_0) rfl rfl k) ?_
  show Go _ _ _ _ (s₁.setTop (mkF m 1 #[.val (.ref o)] [(.ref o)]))
  refine Go.step (fun _ k => XS.iconst X0.here hx rfl (hb hby d13_1) k) ?_
  show Go _ _ _ _ (s₁.setTop (mkF m 2 #[.val (.ref o)] [(.int (0 : Int32)), (.ref o)]))
  obtain ⟨T1, h1, X1, e1, W1, st1⟩ := putF X0 hx hZ hown (host := "") (Or.inl (hw _ (List.mem_of_getElem? (i := 36) rfl))) Via.refl e0 Fs0 E0 (Or.inl (hw _ (List.mem_of_getElem? (i := 37) rfl))) (hw _ (List.mem_of_getElem? (i := 4) rfl)) (ty := .int) (by decide) rfl rfl (g := (mkF m 2 #[.val (.ref o)] [(.int (0 : Int32)), (.ref o)])) rfl rfl (hb hby d13_2)
  have F1_bytes := Fb0.other W1 (Or.inr (slot_ne (Or.inl (hw _ (List.mem_of_getElem? (i := 18) rfl))) (Or.inl (hw _ (List.mem_of_getElem? (i := 37) rfl))) (by decide) (t := (.array .byte)) (t' := .int) (by decide) (by decide)))
  have F1_size := Fs0.same W1
  have E_1 := E0.wr W1
  have NF1 := Fr.snoc X1 (Fr.nil n0) go
  refine Go.step st1 ?_
  have KW1 : Keep h0 h1 [o] := (Keep.refl h0 [o]).wr W1 (Or.inl (List.mem_of_getElem? (i := 0) rfl))
  have BB1 := BB0.keep (Keep.of_wr W1) (ninS (Ne.symm nob0) nin0)
  show Go _ _ _ _ (T1.setTop (mkF m 5 #[.val (.ref o)] []))
  refine Go.step (fun _ k => XS.aloadN X1.here hx rfl (hb hby d13_5) rfl rfl k) ?_
  show Go _ _ _ _ (T1.setTop (mkF m 6 #[.val (.ref o)] [(.ref o)]))
  obtain ⟨T2, X2, e2, st2⟩ := getF X1 hx hZ hown (host := "") (Or.inl (hw _ (List.mem_of_getElem? (i := 17) rfl))) Via.refl e1 F1_bytes (g := (mkF m 6 #[.val (.ref o)] [(.ref o)])) rfl rfl (hb hby d13_6)
  refine Go.step st2 ?_
  show Go _ _ _ _ (T2.setTop (mkF m 9 #[.val (.ref o)] [(.ref b0)]))
  obtain ⟨⟨k3, cl3, Ar3, q3, S3, N3, H3, G3⟩, l3⟩ := id BB1
  refine Go.step (fun tg k => X2.arraylength hx (by rw [e2]; exact Ar3.1) (State.isArrayOf_alike hZ.alike Ar3.2.1) (g := (mkF m 9 #[.val (.ref o)] [(.ref b0)])) rfl rfl (hb hby d13_9) tg k) ?_
  rw [len_of S3 N3]
  show Go _ _ _ _ (T2.setTop (mkF m 10 #[.val (.ref o)] [(.int (Int32.ofNat cap))]))
  refine Go.step (X2.ldcInt hx hown (mvT hZ (hw _ (List.mem_of_getElem? (i := 70) rfl))) (g := (mkF m 10 #[.val (.ref o)] [(.int (Int32.ofNat cap))])) rfl (hb hby d13_10)) ?_
  show Go _ _ _ _ (T2.setTop (mkF m 12 #[.val (.ref o)] [(.int (65536 : Int32)), (.int (Int32.ofNat cap))]))
  by_cases hc4 : (65536 : Int32) < (Int32.ofNat cap)
  · refine Go.step (fun _ k => XS.icmpNo X2.here hx rfl (hb hby d13_12) rfl (tlt hc4).2.2.2 k) ?_
    show Go _ _ _ _ (T2.setTop (mkF m 15 #[.val (.ref o)] []))
    refine Go.step (fun _ k => XS.aloadN X2.here hx rfl (hb hby d13_15) rfl rfl k) ?_
    show Go _ _ _ _ (T2.setTop (mkF m 16 #[.val (.ref o)] [(.ref o)]))
    refine Go.step (fun _ k => XS.bipush X2.here hx rfl (hb hby d13_16) k) ?_
    show Go _ _ _ _ (T2.setTop (mkF m 18 #[.val (.ref o)] [(.int (64 : Int32)), (.ref o)]))
    obtain ⟨T5, h5, kN, X5, e5, E5, A5, st5⟩ := newP X2 hx hZ (hw _ (List.mem_of_getElem? (i := 1) rfl)) e2 (g := (mkF m 18 #[.val (.ref o)] [(.int (64 : Int32)), (.ref o)])) rfl (hb hby d13_18) rfl (by decide) (cap := 64) (by decide) (by decide) (by decide) (by decide)
    obtain ⟨b, gb⟩ : ∃ z, z = h1.size := ⟨_, rfl⟩
    rw [← gb] at A5 st5
    have BN : Bv Z h5 b 64 (List.replicate 64 (.int 0)) := Bv.fresh A5 (by omega)
    have nob : o ≠ b := Nat.ne_of_lt (Nat.lt_of_lt_of_le E_1.lt (Nat.le_of_eq gb.symm))
    have gn : n0 ≤ b := Nat.le_trans (Nat.le_trans Z0 (Nat.le_of_eq W1.size.symm)) (Nat.le_of_eq gb.symm)
    have KN : Keep h0 h5 [o] := KW1.ext E5
    have FX5_bytes := F1_bytes.ext E5
    have FX5_size := F1_size.ext E5
    have EO5 := E_1.ext E5
    refine Go.step st5 ?_
    show Go _ _ _ _ (T5.setTop (mkF m 20 #[.val (.ref o)] [(.ref b), (.ref o)]))
    obtain ⟨T6, h6, X6, e6, W6, st6⟩ := putF X5 hx hZ hown (host := "") (Or.inl (hw _ (List.mem_of_getElem? (i := 17) rfl))) Via.refl e5 FX5_bytes EO5 (Or.inl (hw _ (List.mem_of_getElem? (i := 18) rfl))) (hw _ (List.mem_of_getElem? (i := 4) rfl)) (ty := (.array .byte)) (by decide) rfl rfl (g := (mkF m 20 #[.val (.ref o)] [(.ref b), (.ref o)])) rfl rfl (hb hby d13_20)
    have F6_bytes := FX5_bytes.same W6
    have F6_size := FX5_size.other W6 (Or.inr (slot_ne (Or.inl (hw _ (List.mem_of_getElem? (i := 37) rfl))) (Or.inl (hw _ (List.mem_of_getElem? (i := 18) rfl))) (by decide) (t := .int) (t' := (.array .byte)) (by decide) (by decide)))
    have E_6 := EO5.wr W6
    have NF6 := Fr.snoc X6 NF1 go
    refine Go.step st6 ?_
    have KW6 : Keep h0 h6 [o] := KN.wr W6 (Or.inl (List.mem_of_getElem? (i := 0) rfl))
    have BN6 := BN.keep (Keep.of_wr W6) (ninS (Ne.symm nob) nin0)
    show Go _ _ _ _ (T6.setTop (mkF m 23 #[.val (.ref o)] []))
    exact leafV X6 hx hret hlk (hb hby d13_23) ⟨rfl, NF6, 64, by omega, by omega, b, _, gn, nob, by rw [e6]; exact E_6, by rw [e6]; exact F6_bytes, by rw [e6]; exact F6_size, by rw [e6]; exact BN6⟩ (by decide) (by decide)
  · refine Go.step (fun _ k => XS.icmpYes X2.here hx rfl (pc0 := 12) (pc' := 23) rfl (hb hby d13_12) rfl (flt hc4).2.2.2 (by decide) (by decide) k) ?_
    show Go _ _ _ _ (T2.setTop (mkF m 23 #[.val (.ref o)] []))
    exact leafV X2 hx hret hlk (hb hby d13_23) ⟨rfl, NF1, cap, by omega, by omega, b0, _, gb0, nob0, by rw [e2]; exact E_1, by rw [e2]; exact F1_bytes, by rw [e2]; exact F1_size, by rw [e2]; exact BB1⟩ (by decide) (by decide)
theorem d12_0 : decode prog_51_method_15_code 0 = .ok (.aload_n 0, 1) := by decide +kernel
theorem d12_1 : decode prog_51_method_15_code 1 = .ok (.getfield 19, 3) := by decide +kernel
theorem d12_4 : decode prog_51_method_15_code 4 = .ok (.ireturn, 1) := by decide +kernel
theorem pn12 : plainFor (⟨"com/example/farcall/farcall/MessageBuffer", "size", "()I"⟩ : MethodName) = true := plainFor_of_name (by first | (simp [plainName, overriddenIn]; done) | decide +kernel)
theorem pd12 : parseMethodDescriptor "()I" = some ⟨[], some .int⟩ := by decide +kernel
theorem ef12 (m : MethodId) (y0 : Addr) : entryFrame m #[(.ref y0)] 1 = mkF m 0 #[.val (.ref y0)] [] := by first | (simp [entryFrame, mkF, argsToLocals, Value.category]; done) | rfl
set_option maxRecDepth 65536 in
set_option maxHeartbeats 40000000 in
theorem rmS (l : Launch) (Z : State) (a0 : Array Value) (hw : ∀ d ∈ tables_1, d.before a0 Z = true) (ws : List Jvm.Cond)  (h0 : Heap) (o : Addr) (sz : Nat) (Fs : Fld Z h0 o "com/example/farcall/farcall/MessageBuffer" "size" "I" (.int (Int32.ofNat sz))) : Con l Z (⟨"com/example/farcall/farcall/MessageBuffer", "size", "()I"⟩ : MethodName) prog_51_method_15_code 1 (some .int) ws ({ frames := 0, cells := 0, slots := 0, locals := 0 } : Room) #[(.ref o)] h0 (fun v h L => v = some (.int (Int32.ofNat sz)) ∧ h = h0 ∧ L = []) := by
  refine Con.of pn12 fun p e s m below meth c s₁ hZ hx hby hml hown hret hlk hnm X0 e0 => ?_
  rw [ef12]
  show Go _ _ _ _ (s₁.setTop (mkF m 0 #[.val (.ref o)] []))
  refine Go.step (fun _ k => XS.aloadN X0.here hx rfl (hb hby d12_0) rfl rfl k) ?_
  show Go _ _ _ _ (s₁.setTop (mkF m 1 #[.val (.ref o)] [(.ref o)]))
  obtain ⟨T1, X1, e1, st1⟩ := getF X0 hx hZ hown (host := "") (Or.inl (hw _ (List.mem_of_getElem? (i := 36) rfl))) Via.refl e0 Fs (g := (mkF m 1 #[.val (.ref o)] [(.ref o)])) rfl rfl (hb hby d12_1)
  refine Go.step st1 ?_
  show Go _ _ _ _ (T1.setTop (mkF m 4 #[.val (.ref o)] [(.int (Int32.ofNat sz))]))
  exact leafI X1 hx hret hlk (hb hby d12_4) ⟨rfl, e1, rfl⟩ (by decide) (by decide)
theorem d14_0 : decode prog_51_method_22_code 0 = .ok (.aload_n 0, 1) := by decide +kernel
theorem d14_1 : decode prog_51_method_22_code 1 = .ok (.getfield 11, 3) := by decide +kernel
theorem d14_4 : decode prog_51_method_22_code 4 = .ok (.aload_n 0, 1) := by decide +kernel
theorem d14_5 : decode prog_51_method_22_code 5 = .ok (.getfield 19, 3) := by decide +kernel
theorem d14_8 : decode prog_51_method_22_code 8 = .ok (.invokestatic 98, 3) := by decide +kernel
theorem d14_11 : decode prog_51_method_22_code 11 = .ok (.areturn, 1) := by decide +kernel
theorem pn14 : plainFor (⟨"com/example/farcall/farcall/MessageBuffer", "toByteArray", "()[B"⟩ : MethodName) = true := plainFor_of_name (by first | (simp [plainName, overriddenIn]; done) | decide +kernel)
theorem pd14 : parseMethodDescriptor "()[B" = some ⟨[], some (.array .byte)⟩ := by decide +kernel
theorem ef14 (m : MethodId) (y0 : Addr) : entryFrame m #[(.ref y0)] 1 = mkF m 0 #[.val (.ref y0)] [] := by first | (simp [entryFrame, mkF, argsToLocals, Value.category]; done) | rfl
set_option maxRecDepth 65536 in
set_option maxHeartbeats 40000000 in
theorem rmT (l : Launch) (Z : State) (a0 : Array Value) (hw : ∀ d ∈ tables_1, d.before a0 Z = true) (ws : List Jvm.Cond)  (h0 : Heap) (o b : Addr) (sz cap n0 : Nat) (vs : List Value) (Fb : Fld Z h0 o "com/example/farcall/farcall/MessageBuffer" "bytes" "[B" (.ref b)) (Fs : Fld Z h0 o "com/example/farcall/farcall/MessageBuffer" "size" "I" (.int (Int32.ofNat sz))) (BB : Bv Z h0 b cap vs) (h4 : sz ≤ 4) (hc : 64 ≤ cap) (hc2 : cap ≤ 70064) (Z0 : n0 ≤ h0.size) : Con l Z (⟨"com/example/farcall/farcall/MessageBuffer", "toByteArray", "()[B"⟩ : MethodName) prog_51_method_22_code 1 (some (.array .byte)) ws ({ frames := 2, cells := 1, slots := 4, locals := 44 } : Room) #[(.ref o)] h0 (fun v h L => ∃ (r : Addr) (vs' : List Value), v = some (.ref r) ∧ Fr n0 L ∧ Keep h0 h [] ∧ Bv Z h r sz vs' ∧ ∀ j, j < sz → vs'.getD j (.int 0) = vs.getD j (.int 0)) := by
  refine Con.of pn14 fun p e s m below meth c s₁ hZ hx hby hml hown hret hlk hnm X0 e0 => ?_
  rw [ef14]
  show Go _ _ _ _ (s₁.setTop (mkF m 0 #[.val (.ref o)] []))
  refine Go.step (fun _ k => XS.aloadN X0.here hx rfl (hb hby d14_0) rfl rfl k) ?_
  show Go _ _ _ _ (s₁.setTop (mkF m 1 #[.val (.ref o)] [(.ref o)]))
  obtain ⟨T1, X1, e1, st1⟩ := getF X0 hx hZ hown (host := "") (Or.inl (hw _ (List.mem_of_getElem? (i := 17) rfl))) Via.refl e0 Fb (g := (mkF m 1 #[.val (.ref o)] [(.ref o)])) rfl rfl (hb hby d14_1)
  refine Go.step st1 ?_
  show Go _ _ _ _ (T1.setTop (mkF m 4 #[.val (.ref o)] [(.ref b)]))
  refine Go.step (fun _ k => XS.aloadN X1.here hx rfl (hb hby d14_4) rfl rfl k) ?_
  show Go _ _ _ _ (T1.setTop (mkF m 5 #[.val (.ref o)] [(.ref o), (.ref b)]))
  obtain ⟨T2, X2, e2, st2⟩ := getF X1 hx hZ hown (host := "") (Or.inl (hw _ (List.mem_of_getElem? (i := 36) rfl))) Via.refl e1 Fs (g := (mkF m 5 #[.val (.ref o)] [(.ref o), (.ref b)])) rfl rfl (hb hby d14_5)
  refine Go.step st2 ?_
  show Go _ _ _ _ (T2.setTop (mkF m 8 #[.val (.ref o)] [(.int (Int32.ofNat sz)), (.ref b)]))
  refine goS X2 hx hZ hown (hw _ (List.mem_of_getElem? (i := 48) rfl)) (hw _ (List.mem_of_getElem? (i := 49) rfl)) (hw _ (List.mem_of_getElem? (i := 50) rfl)) (hw _ (List.mem_of_getElem? (i := 51) rfl)) (by decide) (rm10 l Z a0 hw [] h0 b sz cap 4 n0 vs BB (by omega) (by omega) (by omega) (by decide) Z0) e2 (by rw [hml]; rfl) [.ref b, .int (Int32.ofNat sz)] [] rfl pd10 rfl rfl 0 rfl (hb hby d14_8) (by decide) (by decide) (by decide) (by decide) fun TC LC vC qC XC => ?_
  obtain ⟨r, rfl, NC, KC, gC, gC', vs', BC, hC⟩ := qC
  show Go _ _ _ _ (TC.setTop (mkF m 11 #[.val (.ref o)] [(.ref r)]))
  exact leafA XC hx hret rfl hlk rfl rfl (hb hby d14_11) ⟨r, vs', rfl, Fr.app (Fr.nil n0) NC, KC, BC, fun j q => hC j (by omega) q⟩ (by decide) (by decide)
theorem d15_0 : decode prog_51_method_8_code 0 = .ok (.aload_n 0, 1) := by decide +kernel
theorem d15_1 : decode prog_51_method_8_code 1 = .ok (.iconst 4, 1) := by decide +kernel
theorem d15_2 : decode prog_51_method_8_code 2 = .ok (.invokevirtual 15, 3) := by decide +kernel
theorem d15_5 : decode prog_51_method_8_code 5 = .ok (.aload_n 0, 1) := by decide +kernel
theorem d15_6 : decode prog_51_method_8_code 6 = .ok (.getfield 11, 3) := by decide +kernel
theorem d15_9 : decode prog_51_method_8_code 9 = .ok (.aload_n 0, 1) := by decide +kernel
theorem d15_10 : decode prog_51_method_8_code 10 = .ok (.getfield 19, 3) := by decide +kernel
theorem d15_13 : decode prog_51_method_8_code 13 = .ok (.iload_n 1, 1) := by decide +kernel
theorem d15_14 : decode prog_51_method_8_code 14 = .ok (.bipush 24, 2) := by decide +kernel
theorem d15_16 : decode prog_51_method_8_code 16 = .ok (.iushr, 1) := by decide +kernel
theorem d15_17 : decode prog_51_method_8_code 17 = .ok (.i2b, 1) := by decide +kernel
theorem d15_18 : decode prog_51_method_8_code 18 = .ok (.bastore, 1) := by decide +kernel
theorem d15_19 : decode prog_51_method_8_code 19 = .ok (.aload_n 0, 1) := by decide +kernel
theorem d15_20 : decode prog_51_method_8_code 20 = .ok (.getfield 11, 3) := by decide +kernel
theorem d15_23 : decode prog_51_method_8_code 23 = .ok (.aload_n 0, 1) := by decide +kernel
theorem d15_24 : decode prog_51_method_8_code 24 = .ok (.getfield 19, 3) := by decide +kernel
theorem d15_27 : decode prog_51_method_8_code 27 = .ok (.iconst 1, 1) := by decide +kernel
theorem d15_28 : decode prog_51_method_8_code 28 = .ok (.iadd, 1) := by decide +kernel
theorem d15_29 : decode prog_51_method_8_code 29 = .ok (.iload_n 1, 1) := by decide +kernel
theorem d15_30 : decode prog_51_method_8_code 30 = .ok (.bipush 16, 2) := by decide +kernel
theorem d15_32 : decode prog_51_method_8_code 32 = .ok (.iushr, 1) := by decide +kernel
theorem d15_33 : decode prog_51_method_8_code 33 = .ok (.i2b, 1) := by decide +kernel
theorem d15_34 : decode prog_51_method_8_code 34 = .ok (.bastore, 1) := by decide +kernel
theorem d15_35 : decode prog_51_method_8_code 35 = .ok (.aload_n 0, 1) := by decide +kernel
theorem d15_36 : decode prog_51_method_8_code 36 = .ok (.getfield 11, 3) := by decide +kernel
theorem d15_39 : decode prog_51_method_8_code 39 = .ok (.aload_n 0, 1) := by decide +kernel
theorem d15_40 : decode prog_51_method_8_code 40 = .ok (.getfield 19, 3) := by decide +kernel
theorem d15_43 : decode prog_51_method_8_code 43 = .ok (.iconst 2, 1) := by decide +kernel
theorem d15_44 : decode prog_51_method_8_code 44 = .ok (.iadd, 1) := by decide +kernel
theorem d15_45 : decode prog_51_method_8_code 45 = .ok (.iload_n 1, 1) := by decide +kernel
theorem d15_46 : decode prog_51_method_8_code 46 = .ok (.bipush 8, 2) := by decide +kernel
theorem d15_48 : decode prog_51_method_8_code 48 = .ok (.iushr, 1) := by decide +kernel
theorem d15_49 : decode prog_51_method_8_code 49 = .ok (.i2b, 1) := by decide +kernel
theorem d15_50 : decode prog_51_method_8_code 50 = .ok (.bastore, 1) := by decide +kernel
theorem d15_51 : decode prog_51_method_8_code 51 = .ok (.aload_n 0, 1) := by decide +kernel
theorem d15_52 : decode prog_51_method_8_code 52 = .ok (.getfield 11, 3) := by decide +kernel
theorem d15_55 : decode prog_51_method_8_code 55 = .ok (.aload_n 0, 1) := by decide +kernel
theorem d15_56 : decode prog_51_method_8_code 56 = .ok (.getfield 19, 3) := by decide +kernel
theorem d15_59 : decode prog_51_method_8_code 59 = .ok (.iconst 3, 1) := by decide +kernel
theorem d15_60 : decode prog_51_method_8_code 60 = .ok (.iadd, 1) := by decide +kernel
theorem d15_61 : decode prog_51_method_8_code 61 = .ok (.iload_n 1, 1) := by decide +kernel
theorem d15_62 : decode prog_51_method_8_code 62 = .ok (.i2b, 1) := by decide +kernel
theorem d15_63 : decode prog_51_method_8_code 63 = .ok (.bastore, 1) := by decide +kernel
theorem d15_64 : decode prog_51_method_8_code 64 = .ok (.aload_n 0, 1) := by decide +kernel
theorem d15_65 : decode prog_51_method_8_code 65 = .ok (.dup, 1) := by decide +kernel
theorem d15_66 : decode prog_51_method_8_code 66 = .ok (.getfield 19, 3) := by decide +kernel
theorem d15_69 : decode prog_51_method_8_code 69 = .ok (.iconst 4, 1) := by decide +kernel
theorem d15_70 : decode prog_51_method_8_code 70 = .ok (.iadd, 1) := by decide +kernel
theorem d15_71 : decode prog_51_method_8_code 71 = .ok (.putfield 19, 3) := by decide +kernel
theorem d15_74 : decode prog_51_method_8_code 74 = .ok (.return_, 1) := by decide +kernel
theorem pn15 : plainFor (⟨"com/example/farcall/farcall/MessageBuffer", "writeInt", "(I)V"⟩ : MethodName) = true := plainFor_of_name (by first | (simp [plainName, overriddenIn]; done) | decide +kernel)
theorem pd15 : parseMethodDescriptor "(I)V" = some ⟨[.int], none⟩ := by decide +kernel
theorem ef15 (m : MethodId) (y0 : Addr) (y1 : Int32) : entryFrame m #[(.ref y0), (.int y1)] 2 = mkF m 0 #[.val (.ref y0), .val (.int y1)] [] := by first | (simp [entryFrame, mkF, argsToLocals, Value.category]; done) | rfl
set_option maxRecDepth 65536 in
set_option maxHeartbeats 40000000 in
theorem rmW (l : Launch) (Z : State) (a0 : Array Value) (hw : ∀ d ∈ tables_1, d.before a0 Z = true) (ws : List Jvm.Cond)  (h0 : Heap) (o b : Addr) (x : Int32) (cap n0 : Nat) (vs : List Value) (E0 : Exa Z h0 o "com/example/farcall/farcall/MessageBuffer") (Fb : Fld Z h0 o "com/example/farcall/farcall/MessageBuffer" "bytes" "[B" (.ref b)) (Fs : Fld Z h0 o "com/example/farcall/farcall/MessageBuffer" "size" "I" (.int (Int32.ofNat 0))) (BB : Bv Z h0 b cap vs) (hc : 64 ≤ cap) (hc2 : cap ≤ 70064) (gb : n0 ≤ b) (go : n0 ≤ o) (nob : o ≠ b) : Con l Z (⟨"com/example/farcall/farcall/MessageBuffer", "writeInt", "(I)V"⟩ : MethodName) prog_51_method_8_code 2 none ws ({ frames := 1, cells := 0, slots := 0, locals := 15 } : Room) #[(.ref o), (.int x)] h0 (fun v h L => v = none ∧ Fr n0 L ∧ ∃ vs' : List Value, Exa Z h o "com/example/farcall/farcall/MessageBuffer" ∧ Fld Z h o "com/example/farcall/farcall/MessageBuffer" "bytes" "[B" (.ref b) ∧ Fld Z h o "com/example/farcall/farcall/MessageBuffer" "size" "I" (.int (Int32.ofNat 4)) ∧ Bv Z h b cap vs' ∧ vs'.getD 0 (.int 0) = .int ((x.toUInt32 >>> ((24 : Int32) &&& 31).toUInt32).toInt32).toInt8.toInt32 ∧ vs'.getD 1 (.int 0) = .int ((x.toUInt32 >>> ((16 : Int32) &&& 31).toUInt32).toInt32).toInt8.toInt32 ∧ vs'.getD 2 (.int 0) = .int ((x.toUInt32 >>> ((8 : Int32) &&& 31).toUInt32).toInt32).toInt8.toInt32 ∧ vs'.getD 3 (.int 0) = .int x.toInt8.toInt32) := by
  refine Con.of pn15 fun p e s m below meth c s₁ hZ hx hby hml hown hret hlk hnm X0 e0 => ?_
  rw [ef15]
  show Go _ _ _ _ (s₁.setTop (mkF m 0 #[.val (.ref o), .val (.int x)] []))
  refine Go.step (fun _ k => XS.aloadN X0.here hx rfl (hb hby d15_0) rfl rfl k) ?_
  show Go _ _ _ _ (s₁.setTop (mkF m 1 #[.val (.ref o), .val (.int x)] [(.ref o)]))
  refine Go.step (fun _ k => XS.iconst X0.here hx rfl (hb hby d15_1) k) ?_
  show Go _ _ _ _ (s₁.setTop (mkF m 2 #[.val (.ref o), .val (.int x)] [(.int (4 : Int32)), (.ref o)]))
  refine goP X0 hx hZ (C := "com/example/farcall/farcall/MessageBuffer") hown (hw _ (List.mem_of_getElem? (i := 32) rfl)) (own_sel hZ (x := ⟨"com/example/farcall/farcall/MessageBuffer", "size", "()I"⟩) (hw _ (List.mem_of_getElem? (i := 63) rfl)) (hw _ (List.mem_of_getElem? (i := 33) rfl)) (hw _ (List.mem_of_getElem? (i := 34) rfl)) rfl (by decide)) (hw _ (List.mem_of_getElem? (i := 33) rfl)) (hw _ (List.mem_of_getElem? (i := 34) rfl)) (hw _ (List.mem_of_getElem? (i := 5) rfl)) (hw _ (List.mem_of_getElem? (i := 35) rfl)) (by decide) (rmEa l Z a0 hw [] h0 o b 4 cap 0 vs Fb Fs BB (by omega) (by omega) (by omega)) e0 E0 (by rw [hml]; rfl) [.int (4 : Int32)] [] rfl pd7 rfl rfl 0 rfl (hb hby d15_2) (by decide) (by decide) (by decide) (by decide) fun T1 L1 v1 q1 X1 => ?_
  obtain ⟨rfl, e1, rfl⟩ := q1
  rw [List.append_nil] at X1
  show Go _ _ _ _ (T1.setTop (mkF m 5 #[.val (.ref o), .val (.int x)] []))
  refine Go.step (fun _ k => XS.aloadN X1.here hx rfl (hb hby d15_5) rfl rfl k) ?_
  show Go _ _ _ _ (T1.setTop (mkF m 6 #[.val (.ref o), .val (.int x)] [(.ref o)]))
  obtain ⟨T2, X2, e2, st2⟩ := getF X1 hx hZ hown (host := "") (Or.inl (hw _ (List.mem_of_getElem? (i := 17) rfl))) Via.refl e1 Fb (g := (mkF m 6 #[.val (.ref o), .val (.int x)] [(.ref o)])) rfl rfl (hb hby d15_6)
  refine Go.step st2 ?_
  show Go _ _ _ _ (T2.setTop (mkF m 9 #[.val (.ref o), .val (.int x)] [(.ref b)]))
  refine Go.step (fun _ k => XS.aloadN X2.here hx rfl (hb hby d15_9) rfl rfl k) ?_
  show Go _ _ _ _ (T2.setTop (mkF m 10 #[.val (.ref o), .val (.int x)] [(.ref o), (.ref b)]))
  obtain ⟨T3, X3, e3, st3⟩ := getF X2 hx hZ hown (host := "") (Or.inl (hw _ (List.mem_of_getElem? (i := 36) rfl))) Via.refl e2 Fs (g := (mkF m 10 #[.val (.ref o), .val (.int x)] [(.ref o), (.ref b)])) rfl rfl (hb hby d15_10)
  refine Go.step st3 ?_
  show Go _ _ _ _ (T3.setTop (mkF m 13 #[.val (.ref o), .val (.int x)] [(.int (Int32.ofNat 0)), (.ref b)]))
  refine Go.step (fun _ k => XS.iloadN X3.here hx rfl (hb hby d15_13) rfl k) ?_
  show Go _ _ _ _ (T3.setTop (mkF m 14 #[.val (.ref o), .val (.int x)] [(.int x), (.int (Int32.ofNat 0)), (.ref b)]))
  refine Go.step (fun _ k => XS.bipush X3.here hx rfl (hb hby d15_14) k) ?_
  show Go _ _ _ _ (T3.setTop (mkF m 16 #[.val (.ref o), .val (.int x)] [(.int (24 : Int32)), (.int x), (.int (Int32.ofNat 0)), (.ref b)]))
  refine Go.step (fun _ k => XS.iushr X3.here hx rfl (hb hby d15_16) rfl k) ?_
  show Go _ _ _ _ (T3.setTop (mkF m 17 #[.val (.ref o), .val (.int x)] [(.int ((x.toUInt32 >>> ((24 : Int32) &&& 31).toUInt32).toInt32)), (.int (Int32.ofNat 0)), (.ref b)]))
  refine Go.step (fun _ k => XS.i2b X3.here hx rfl (hb hby d15_17) rfl k) ?_
  show Go _ _ _ _ (T3.setTop (mkF m 18 #[.val (.ref o), .val (.int x)] [(.int (((x.toUInt32 >>> ((24 : Int32) &&& 31).toUInt32).toInt32).toInt8.toInt32)), (.int (Int32.ofNat 0)), (.ref b)]))
  obtain ⟨⟨kB4, cB4, Ar4, q4, S4, N4, H4, G4⟩, l4⟩ := id BB
  obtain ⟨T4, h4, X4, e4, W4, st4⟩ := stB X3 hx hZ e3 Ar4 (j := Int32.ofNat 0) (own_in (by rw [S4, own_clamp (by omega)]; omega) (by omega)) (g := (mkF m 18 #[.val (.ref o), .val (.int x)] [(.int (((x.toUInt32 >>> ((24 : Int32) &&& 31).toUInt32).toInt32).toInt8.toInt32)), (.int (Int32.ofNat 0)), (.ref b)])) rfl rfl (hb hby d15_18)
  have BV4 := Bv.set (i := 0) (by omega) (by omega) Ar4 q4 S4 N4 H4 G4 l4 W4
  have NF4 := Fr.snoc X4 (Fr.nil n0) gb
  have Fb4 := Fb.other W4 (Or.inl nob)
  have Fs4 := Fs.other W4 (Or.inl nob)
  have E4 := E0.wr W4
  refine Go.step st4 ?_
  show Go _ _ _ _ (T4.setTop (mkF m 19 #[.val (.ref o), .val (.int x)] []))
  refine Go.step (fun _ k => XS.aloadN X4.here hx rfl (hb hby d15_19) rfl rfl k) ?_
  show Go _ _ _ _ (T4.setTop (mkF m 20 #[.val (.ref o), .val (.int x)] [(.ref o)]))
  obtain ⟨T5, X5, e5, st5⟩ := getF X4 hx hZ hown (host := "") (Or.inl (hw _ (List.mem_of_getElem? (i := 17) rfl))) Via.refl e4 Fb4 (g := (mkF m 20 #[.val (.ref o), .val (.int x)] [(.ref o)])) rfl rfl (hb hby d15_20)
  refine Go.step st5 ?_
  show Go _ _ _ _ (T5.setTop (mkF m 23 #[.val (.ref o), .val (.int x)] [(.ref b)]))
  refine Go.step (fun _ k => XS.aloadN X5.here hx rfl (hb hby d15_23) rfl rfl k) ?_
  show Go _ _ _ _ (T5.setTop (mkF m 24 #[.val (.ref o), .val (.int x)] [(.ref o), (.ref b)]))
  obtain ⟨T6, X6, e6, st6⟩ := getF X5 hx hZ hown (host := "") (Or.inl (hw _ (List.mem_of_getElem? (i := 36) rfl))) Via.refl e5 Fs4 (g := (mkF m 24 #[.val (.ref o), .val (.int x)] [(.ref o), (.ref b)])) rfl rfl (hb hby d15_24)
  refine Go.step st6 ?_
  show Go _ _ _ _ (T6.setTop (mkF m 27 #[.val (.ref o), .val (.int x)] [(.int (Int32.ofNat 0)), (.ref b)]))
  refine Go.step (fun _ k => XS.iconst X6.here hx rfl (hb hby d15_27) k) ?_
  show Go _ _ _ _ (T6.setTop (mkF m 28 #[.val (.ref o), .val (.int x)] [(.int (1 : Int32)), (.int (Int32.ofNat 0)), (.ref b)]))
  refine Go.step (fun _ k => XS.iadd X6.here hx rfl (hb hby d15_28) rfl k) ?_
  rw [(by decide : (Int32.ofNat 0) + (1 : Int32) = Int32.ofNat 1)]
  show Go _ _ _ _ (T6.setTop (mkF m 29 #[.val (.ref o), .val (.int x)] [(.int (Int32.ofNat 1)), (.ref b)]))
  refine Go.step (fun _ k => XS.iloadN X6.here hx rfl (hb hby d15_29) rfl k) ?_
  show Go _ _ _ _ (T6.setTop (mkF m 30 #[.val (.ref o), .val (.int x)] [(.int x), (.int (Int32.ofNat 1)), (.ref b)]))
  refine Go.step (fun _ k => XS.bipush X6.here hx rfl (hb hby d15_30) k) ?_
  show Go _ _ _ _ (T6.setTop (mkF m 32 #[.val (.ref o), .val (.int x)] [(.int (16 : Int32)), (.int x), (.int (Int32.ofNat 1)), (.ref b)]))
  refine Go.step (fun _ k => XS.iushr X6.here hx rfl (hb hby d15_32) rfl k) ?_
  show Go _ _ _ _ (T6.setTop (mkF m 33 #[.val (.ref o), .val (.int x)] [(.int ((x.toUInt32 >>> ((16 : Int32) &&& 31).toUInt32).toInt32)), (.int (Int32.ofNat 1)), (.ref b)]))
  refine Go.step (fun _ k => XS.i2b X6.here hx rfl (hb hby d15_33) rfl k) ?_
  show Go _ _ _ _ (T6.setTop (mkF m 34 #[.val (.ref o), .val (.int x)] [(.int (((x.toUInt32 >>> ((16 : Int32) &&& 31).toUInt32).toInt32).toInt8.toInt32)), (.int (Int32.ofNat 1)), (.ref b)]))
  obtain ⟨⟨kB7, cB7, Ar7, q7, S7, N7, H7, G7⟩, l7⟩ := id BV4
  obtain ⟨T7, h7, X7, e7, W7, st7⟩ := stB X6 hx hZ e6 Ar7 (j := Int32.ofNat 1) (own_in (by rw [S7, own_clamp (by omega)]; omega) (by omega)) (g := (mkF m 34 #[.val (.ref o), .val (.int x)] [(.int (((x.toUInt32 >>> ((16 : Int32) &&& 31).toUInt32).toInt32).toInt8.toInt32)), (.int (Int32.ofNat 1)), (.ref b)])) rfl rfl (hb hby d15_34)
  have BV7 := Bv.set (i := 1) (by omega) (by omega) Ar7 q7 S7 N7 H7 G7 l7 W7
  have NF7 := Fr.snoc X7 NF4 gb
  have Fb7 := Fb4.other W7 (Or.inl nob)
  have Fs7 := Fs4.other W7 (Or.inl nob)
  have E7 := E4.wr W7
  refine Go.step st7 ?_
  show Go _ _ _ _ (T7.setTop (mkF m 35 #[.val (.ref o), .val (.int x)] []))
  refine Go.step (fun _ k => XS.aloadN X7.here hx rfl (hb hby d15_35) rfl rfl k) ?_
  show Go _ _ _ _ (T7.setTop (mkF m 36 #[.val (.ref o), .val (.int x)] [(.ref o)]))
  obtain ⟨T8, X8, e8, st8⟩ := getF X7 hx hZ hown (host := "") (Or.inl (hw _ (List.mem_of_getElem? (i := 17) rfl))) Via.refl e7 Fb7 (g := (mkF m 36 #[.val (.ref o), .val (.int x)] [(.ref o)])) rfl rfl (hb hby d15_36)
  refine Go.step st8 ?_
  show Go _ _ _ _ (T8.setTop (mkF m 39 #[.val (.ref o), .val (.int x)] [(.ref b)]))
  refine Go.step (fun _ k => XS.aloadN X8.here hx rfl (hb hby d15_39) rfl rfl k) ?_
  show Go _ _ _ _ (T8.setTop (mkF m 40 #[.val (.ref o), .val (.int x)] [(.ref o), (.ref b)]))
  obtain ⟨T9, X9, e9, st9⟩ := getF X8 hx hZ hown (host := "") (Or.inl (hw _ (List.mem_of_getElem? (i := 36) rfl))) Via.refl e8 Fs7 (g := (mkF m 40 #[.val (.ref o), .val (.int x)] [(.ref o), (.ref b)])) rfl rfl (hb hby d15_40)
  refine Go.step st9 ?_
  show Go _ _ _ _ (T9.setTop (mkF m 43 #[.val (.ref o), .val (.int x)] [(.int (Int32.ofNat 0)), (.ref b)]))
  refine Go.step (fun _ k => XS.iconst X9.here hx rfl (hb hby d15_43) k) ?_
  show Go _ _ _ _ (T9.setTop (mkF m 44 #[.val (.ref o), .val (.int x)] [(.int (2 : Int32)), (.int (Int32.ofNat 0)), (.ref b)]))
  refine Go.step (fun _ k => XS.iadd X9.here hx rfl (hb hby d15_44) rfl k) ?_
  rw [(by decide : (Int32.ofNat 0) + (2 : Int32) = Int32.ofNat 2)]
  show Go _ _ _ _ (T9.setTop (mkF m 45 #[.val (.ref o), .val (.int x)] [(.int (Int32.ofNat 2)), (.ref b)]))
  refine Go.step (fun _ k => XS.iloadN X9.here hx rfl (hb hby d15_45) rfl k) ?_
  show Go _ _ _ _ (T9.setTop (mkF m 46 #[.val (.ref o), .val (.int x)] [(.int x), (.int (Int32.ofNat 2)), (.ref b)]))
  refine Go.step (fun _ k => XS.bipush X9.here hx rfl (hb hby d15_46) k) ?_
  show Go _ _ _ _ (T9.setTop (mkF m 48 #[.val (.ref o), .val (.int x)] [(.int (8 : Int32)), (.int x), (.int (Int32.ofNat 2)), (.ref b)]))
  refine Go.step (fun _ k => XS.iushr X9.here hx rfl (hb hby d15_48) rfl k) ?_
  show Go _ _ _ _ (T9.setTop (mkF m 49 #[.val (.ref o), .val (.int x)] [(.int ((x.toUInt32 >>> ((8 : Int32) &&& 31).toUInt32).toInt32)), (.int (Int32.ofNat 2)), (.ref b)]))
  refine Go.step (fun _ k => XS.i2b X9.here hx rfl (hb hby d15_49) rfl k) ?_
  show Go _ _ _ _ (T9.setTop (mkF m 50 #[.val (.ref o), .val (.int x)] [(.int (((x.toUInt32 >>> ((8 : Int32) &&& 31).toUInt32).toInt32).toInt8.toInt32)), (.int (Int32.ofNat 2)), (.ref b)]))
  obtain ⟨⟨kB10, cB10, Ar10, q10, S10, N10, H10, G10⟩, l10⟩ := id BV7
  obtain ⟨T10, h10, X10, e10, W10, st10⟩ := stB X9 hx hZ e9 Ar10 (j := Int32.ofNat 2) (own_in (by rw [S10, own_clamp (by omega)]; omega) (by omega)) (g := (mkF m 50 #[.val (.ref o), .val (.int x)] [(.int (((x.toUInt32 >>> ((8 : Int32) &&& 31).toUInt32).toInt32).toInt8.toInt32)), (.int (Int32.ofNat 2)), (.ref b)])) rfl rfl (hb hby d15_50)
  have BV10 := Bv.set (i := 2) (by omega) (by omega) Ar10 q10 S10 N10 H10 G10 l10 W10
  have NF10 := Fr.snoc X10 NF7 gb
  have Fb10 := Fb7.other W10 (Or.inl nob)
  have Fs10 := Fs7.other W10 (Or.inl nob)
  have E10 := E7.wr W10
  refine Go.step st10 ?_
  show Go _ _ _ _ (T10.setTop (mkF m 51 #[.val (.ref o), .val (.int x)] []))
  refine Go.step (fun _ k => XS.aloadN X10.here hx rfl (hb hby d15_51) rfl rfl k) ?_
  show Go _ _ _ _ (T10.setTop (mkF m 52 #[.val (.ref o), .val (.int x)] [(.ref o)]))
  obtain ⟨T11, X11, e11, st11⟩ := getF X10 hx hZ hown (host := "") (Or.inl (hw _ (List.mem_of_getElem? (i := 17) rfl))) Via.refl e10 Fb10 (g := (mkF m 52 #[.val (.ref o), .val (.int x)] [(.ref o)])) rfl rfl (hb hby d15_52)
  refine Go.step st11 ?_
  show Go _ _ _ _ (T11.setTop (mkF m 55 #[.val (.ref o), .val (.int x)] [(.ref b)]))
  refine Go.step (fun _ k => XS.aloadN X11.here hx rfl (hb hby d15_55) rfl rfl k) ?_
  show Go _ _ _ _ (T11.setTop (mkF m 56 #[.val (.ref o), .val (.int x)] [(.ref o), (.ref b)]))
  obtain ⟨T12, X12, e12, st12⟩ := getF X11 hx hZ hown (host := "") (Or.inl (hw _ (List.mem_of_getElem? (i := 36) rfl))) Via.refl e11 Fs10 (g := (mkF m 56 #[.val (.ref o), .val (.int x)] [(.ref o), (.ref b)])) rfl rfl (hb hby d15_56)
  refine Go.step st12 ?_
  show Go _ _ _ _ (T12.setTop (mkF m 59 #[.val (.ref o), .val (.int x)] [(.int (Int32.ofNat 0)), (.ref b)]))
  refine Go.step (fun _ k => XS.iconst X12.here hx rfl (hb hby d15_59) k) ?_
  show Go _ _ _ _ (T12.setTop (mkF m 60 #[.val (.ref o), .val (.int x)] [(.int (3 : Int32)), (.int (Int32.ofNat 0)), (.ref b)]))
  refine Go.step (fun _ k => XS.iadd X12.here hx rfl (hb hby d15_60) rfl k) ?_
  rw [(by decide : (Int32.ofNat 0) + (3 : Int32) = Int32.ofNat 3)]
  show Go _ _ _ _ (T12.setTop (mkF m 61 #[.val (.ref o), .val (.int x)] [(.int (Int32.ofNat 3)), (.ref b)]))
  refine Go.step (fun _ k => XS.iloadN X12.here hx rfl (hb hby d15_61) rfl k) ?_
  show Go _ _ _ _ (T12.setTop (mkF m 62 #[.val (.ref o), .val (.int x)] [(.int x), (.int (Int32.ofNat 3)), (.ref b)]))
  refine Go.step (fun _ k => XS.i2b X12.here hx rfl (hb hby d15_62) rfl k) ?_
  show Go _ _ _ _ (T12.setTop (mkF m 63 #[.val (.ref o), .val (.int x)] [(.int (x.toInt8.toInt32)), (.int (Int32.ofNat 3)), (.ref b)]))
  obtain ⟨⟨kB13, cB13, Ar13, q13, S13, N13, H13, G13⟩, l13⟩ := id BV10
  obtain ⟨T13, h13, X13, e13, W13, st13⟩ := stB X12 hx hZ e12 Ar13 (j := Int32.ofNat 3) (own_in (by rw [S13, own_clamp (by omega)]; omega) (by omega)) (g := (mkF m 63 #[.val (.ref o), .val (.int x)] [(.int (x.toInt8.toInt32)), (.int (Int32.ofNat 3)), (.ref b)])) rfl rfl (hb hby d15_63)
  have BV13 := Bv.set (i := 3) (by omega) (by omega) Ar13 q13 S13 N13 H13 G13 l13 W13
  have NF13 := Fr.snoc X13 NF10 gb
  have Fb13 := Fb10.other W13 (Or.inl nob)
  have Fs13 := Fs10.other W13 (Or.inl nob)
  have E13 := E10.wr W13
  refine Go.step st13 ?_
  show Go _ _ _ _ (T13.setTop (mkF m 64 #[.val (.ref o), .val (.int x)] []))
  refine Go.step (fun _ k => XS.aloadN X13.here hx rfl (hb hby d15_64) rfl rfl k) ?_
  show Go _ _ _ _ (T13.setTop (mkF m 65 #[.val (.ref o), .val (.int x)] [(.ref o)]))
  refine Go.step (fun _ k => XS.dup X13.here hx rfl (hb hby d15_65) rfl rfl k) ?_
  show Go _ _ _ _ (T13.setTop (mkF m 66 #[.val (.ref o), .val (.int x)] [(.ref o), (.ref o)]))
  obtain ⟨T14, X14, e14, st14⟩ := getF X13 hx hZ hown (host := "") (Or.inl (hw _ (List.mem_of_getElem? (i := 36) rfl))) Via.refl e13 Fs13 (g := (mkF m 66 #[.val (.ref o), .val (.int x)] [(.ref o), (.ref o)])) rfl rfl (hb hby d15_66)
  refine Go.step st14 ?_
  show Go _ _ _ _ (T14.setTop (mkF m 69 #[.val (.ref o), .val (.int x)] [(.int (Int32.ofNat 0)), (.ref o)]))
  refine Go.step (fun _ k => XS.iconst X14.here hx rfl (hb hby d15_69) k) ?_
  show Go _ _ _ _ (T14.setTop (mkF m 70 #[.val (.ref o), .val (.int x)] [(.int (4 : Int32)), (.int (Int32.ofNat 0)), (.ref o)]))
  refine Go.step (fun _ k => XS.iadd X14.here hx rfl (hb hby d15_70) rfl k) ?_
  rw [(by decide : (Int32.ofNat 0) + (4 : Int32) = Int32.ofNat 4)]
  show Go _ _ _ _ (T14.setTop (mkF m 71 #[.val (.ref o), .val (.int x)] [(.int (Int32.ofNat 4)), (.ref o)]))
  obtain ⟨T15, h15, X15, e15, W15, st15⟩ := putF X14 hx hZ hown (host := "") (Or.inl (hw _ (List.mem_of_getElem? (i := 36) rfl))) Via.refl e14 Fs13 E13 (Or.inl (hw _ (List.mem_of_getElem? (i := 37) rfl))) (hw _ (List.mem_of_getElem? (i := 4) rfl)) (ty := .int) (by decide) rfl rfl (g := (mkF m 71 #[.val (.ref o), .val (.int x)] [(.int (Int32.ofNat 4)), (.ref o)])) rfl rfl (hb hby d15_71)
  have F15_bytes := Fb13.other W15 (Or.inr (slot_ne (Or.inl (hw _ (List.mem_of_getElem? (i := 18) rfl))) (Or.inl (hw _ (List.mem_of_getElem? (i := 37) rfl))) (by decide) (t := (.array .byte)) (t' := .int) (by decide) (by decide)))
  have F15_size := Fs13.same W15
  have E_15 := E13.wr W15
  have NF15 := Fr.snoc X15 NF13 go
  refine Go.step st15 ?_
  have BZ : Bv Z h15 b cap _ := BV13.keep (Keep.of_wr W15) (ninS (Ne.symm nob) nin0)
  show Go _ _ _ _ (T15.setTop (mkF m 74 #[.val (.ref o), .val (.int x)] []))
  have lv : 64 ≤ vs.length := by rw [BB.2]; exact hc
  have BZ' := BZ
  rw [own_byte, own_byte, own_byte, own_byte] at BZ'
  exact leafV X15 hx hret hlk (hb hby d15_74) ⟨rfl, NF15, _, by rw [e15]; exact E_15, by rw [e15]; exact F15_bytes, by rw [e15]; exact F15_size, by rw [e15]; exact BZ', by simp [List.getD_eq_getElem?_getD, List.getElem?_set, show 0 < vs.length by omega], by simp [List.getD_eq_getElem?_getD, List.getElem?_set, show 1 < vs.length by omega], by simp [List.getD_eq_getElem?_getD, List.getElem?_set, show 2 < vs.length by omega], by simp [List.getD_eq_getElem?_getD, List.getElem?_set, show 3 < vs.length by omega]⟩ (by decide) (by decide)
theorem d4_0 : decode prog_51_method_3_code 0 = .ok (.iload_n 2, 1) := by decide +kernel
theorem d4_1 : decode prog_51_method_3_code 1 = .ok (.iload_n 3, 1) := by decide +kernel
theorem d4_2 : decode prog_51_method_3_code 2 = .ok (.aload_n 1, 1) := by decide +kernel
theorem d4_3 : decode prog_51_method_3_code 3 = .ok (.arraylength, 1) := by decide +kernel
theorem d4_4 : decode prog_51_method_3_code 4 = .ok (.invokestatic 23, 3) := by decide +kernel
theorem d4_7 : decode prog_51_method_3_code 7 = .ok (.pop, 1) := by decide +kernel
theorem d4_8 : decode prog_51_method_3_code 8 = .ok (.aload_n 0, 1) := by decide +kernel
theorem d4_9 : decode prog_51_method_3_code 9 = .ok (.iload_n 3, 1) := by decide +kernel
theorem d4_10 : decode prog_51_method_3_code 10 = .ok (.invokevirtual 15, 3) := by decide +kernel
theorem d4_13 : decode prog_51_method_3_code 13 = .ok (.aload_n 1, 1) := by decide +kernel
theorem d4_14 : decode prog_51_method_3_code 14 = .ok (.iload_n 2, 1) := by decide +kernel
theorem d4_15 : decode prog_51_method_3_code 15 = .ok (.aload_n 0, 1) := by decide +kernel
theorem d4_16 : decode prog_51_method_3_code 16 = .ok (.getfield 11, 3) := by decide +kernel
theorem d4_19 : decode prog_51_method_3_code 19 = .ok (.aload_n 0, 1) := by decide +kernel
theorem d4_20 : decode prog_51_method_3_code 20 = .ok (.getfield 19, 3) := by decide +kernel
theorem d4_23 : decode prog_51_method_3_code 23 = .ok (.iload_n 3, 1) := by decide +kernel
theorem d4_24 : decode prog_51_method_3_code 24 = .ok (.invokestatic 29, 3) := by decide +kernel
theorem d4_27 : decode prog_51_method_3_code 27 = .ok (.aload_n 0, 1) := by decide +kernel
theorem d4_28 : decode prog_51_method_3_code 28 = .ok (.dup, 1) := by decide +kernel
theorem d4_29 : decode prog_51_method_3_code 29 = .ok (.getfield 19, 3) := by decide +kernel
theorem d4_32 : decode prog_51_method_3_code 32 = .ok (.iload_n 3, 1) := by decide +kernel
theorem d4_33 : decode prog_51_method_3_code 33 = .ok (.iadd, 1) := by decide +kernel
theorem d4_34 : decode prog_51_method_3_code 34 = .ok (.putfield 19, 3) := by decide +kernel
theorem d4_37 : decode prog_51_method_3_code 37 = .ok (.return_, 1) := by decide +kernel
theorem pn4 : plainFor (⟨"com/example/farcall/farcall/MessageBuffer", "write", "([BII)V"⟩ : MethodName) = true := plainFor_of_name (by first | (simp [plainName, overriddenIn]; done) | decide +kernel)
theorem pd4 : parseMethodDescriptor "([BII)V" = some ⟨[(.array .byte), .int, .int], none⟩ := by decide +kernel
theorem ef4 (m : MethodId) (y0 : Addr) (y1 : Addr) (y2 : Int32) (y3 : Int32) : entryFrame m #[(.ref y0), (.ref y1), (.int y2), (.int y3)] 4 = mkF m 0 #[.val (.ref y0), .val (.ref y1), .val (.int y2), .val (.int y3)] [] := by first | (simp [entryFrame, mkF, argsToLocals, Value.category]; done) | rfl
set_option maxRecDepth 65536 in
set_option maxHeartbeats 40000000 in
theorem rmWra (l : Launch) (Z : State) (a0 : Array Value) (hw : ∀ d ∈ tables_1, d.before a0 Z = true) (ws : List Jvm.Cond)  (h0 : Heap) (o a : Addr) (n n0 : Nat) (va : List Value) (BA : Bv Z h0 a 70000 va) (M : Mb Z h0 o n0 64 0) (hn : n ≤ 70000) (nao : a ≠ o) (Z0 : n0 ≤ h0.size) (go : n0 ≤ o) (h64 : n ≤ 64) : Con l Z (⟨"com/example/farcall/farcall/MessageBuffer", "write", "([BII)V"⟩ : MethodName) prog_51_method_3_code 4 none ws ({ frames := 3, cells := 1, slots := 70064, locals := 60 } : Room) #[(.ref o), (.ref a), (.int (0 : Int32)), (.int (Int32.ofNat n))] h0 (fun v h L => v = none ∧ Fr n0 L ∧ ∃ cap, 64 ≤ cap ∧ cap ≤ 70064 ∧ Mb Z h o n0 cap n) := by
  refine Con.of pn4 fun p e s m below meth c s₁ hZ hx hby hml hown hret hlk hnm X0 e0 => ?_
  rw [ef4]
  obtain ⟨b, vs, gb, nob, E0, Fb, Fs, BB⟩ := M
  show Go _ _ _ _ (s₁.setTop (mkF m 0 #[.val (.ref o), .val (.ref a), .val (.int (0 : Int32)), .val (.int (Int32.ofNat n))] []))
  refine Go.step (fun _ k => XS.iloadN X0.here hx rfl (hb hby d4_0) rfl k) ?_
  show Go _ _ _ _ (s₁.setTop (mkF m 1 #[.val (.ref o), .val (.ref a), .val (.int (0 : Int32)), .val (.int (Int32.ofNat n))] [(.int (0 : Int32))]))
  refine Go.step (fun _ k => XS.iloadN X0.here hx rfl (hb hby d4_1) rfl k) ?_
  show Go _ _ _ _ (s₁.setTop (mkF m 2 #[.val (.ref o), .val (.ref a), .val (.int (0 : Int32)), .val (.int (Int32.ofNat n))] [(.int (Int32.ofNat n)), (.int (0 : Int32))]))
  refine Go.step (fun _ k => XS.aloadN X0.here hx rfl (hb hby d4_2) rfl rfl k) ?_
  show Go _ _ _ _ (s₁.setTop (mkF m 3 #[.val (.ref o), .val (.ref a), .val (.int (0 : Int32)), .val (.int (Int32.ofNat n))] [(.ref a), (.int (Int32.ofNat n)), (.int (0 : Int32))]))
  obtain ⟨⟨k1, cl1, Ar1, q1, S1, N1, H1, G1⟩, l1⟩ := id BA
  refine Go.step (fun tg k => X0.arraylength hx (by rw [e0]; exact Ar1.1) (State.isArrayOf_alike hZ.alike Ar1.2.1) (g := (mkF m 3 #[.val (.ref o), .val (.ref a), .val (.int (0 : Int32)), .val (.int (Int32.ofNat n))] [(.ref a), (.int (Int32.ofNat n)), (.int (0 : Int32))])) rfl rfl (hb hby d4_3) tg k) ?_
  rw [len_of S1 N1]
  show Go _ _ _ _ (s₁.setTop (mkF m 4 #[.val (.ref o), .val (.ref a), .val (.int (0 : Int32)), .val (.int (Int32.ofNat n))] [(.int (Int32.ofNat 70000)), (.int (Int32.ofNat n)), (.int (0 : Int32))]))
  refine goS X0 hx hZ hown (hw _ (List.mem_of_getElem? (i := 24) rfl)) (hw _ (List.mem_of_getElem? (i := 25) rfl)) (hw _ (List.mem_of_getElem? (i := 26) rfl)) (hw _ (List.mem_of_getElem? (i := 27) rfl)) (by decide) (rm5 l Z a0 hw [] h0 n 70000 hn (by omega)) e0 (by rw [hml]; rfl) [(.int (0 : Int32)), (.int (Int32.ofNat n)), (.int (Int32.ofNat 70000))] [] rfl pd5 rfl rfl 0 rfl (hb hby d4_4) (by decide) (by decide) (by decide) (by decide) fun T2 L2 v2 q2 X2 => ?_
  obtain ⟨rfl, e2, rfl⟩ := q2
  rw [List.append_nil] at X2
  show Go _ _ _ _ (T2.setTop (mkF m 7 #[.val (.ref o), .val (.ref a), .val (.int (0 : Int32)), .val (.int (Int32.ofNat n))] [(.int (0 : Int32))]))
  refine Go.step (fun _ k => XS.pop X2.here hx rfl (hb hby d4_7) rfl rfl k) ?_
  show Go _ _ _ _ (T2.setTop (mkF m 8 #[.val (.ref o), .val (.ref a), .val (.int (0 : Int32)), .val (.int (Int32.ofNat n))] []))
  refine Go.step (fun _ k => XS.aloadN X2.here hx rfl (hb hby d4_8) rfl rfl k) ?_
  show Go _ _ _ _ (T2.setTop (mkF m 9 #[.val (.ref o), .val (.ref a), .val (.int (0 : Int32)), .val (.int (Int32.ofNat n))] [(.ref o)]))
  refine Go.step (fun _ k => XS.iloadN X2.here hx rfl (hb hby d4_9) rfl k) ?_
  show Go _ _ _ _ (T2.setTop (mkF m 10 #[.val (.ref o), .val (.ref a), .val (.int (0 : Int32)), .val (.int (Int32.ofNat n))] [(.int (Int32.ofNat n)), (.ref o)]))
  refine goP X2 hx hZ (C := "com/example/farcall/farcall/MessageBuffer") hown (hw _ (List.mem_of_getElem? (i := 32) rfl)) (own_sel hZ (x := ⟨"com/example/farcall/farcall/MessageBuffer", "size", "()I"⟩) (hw _ (List.mem_of_getElem? (i := 63) rfl)) (hw _ (List.mem_of_getElem? (i := 33) rfl)) (hw _ (List.mem_of_getElem? (i := 34) rfl)) rfl (by decide)) (hw _ (List.mem_of_getElem? (i := 33) rfl)) (hw _ (List.mem_of_getElem? (i := 34) rfl)) (hw _ (List.mem_of_getElem? (i := 5) rfl)) (hw _ (List.mem_of_getElem? (i := 35) rfl)) (by decide) (rmEa l Z a0 hw [] h0 o b n 64 0 vs Fb Fs BB (by omega) (by omega) (by omega)) e2 E0 (by rw [hml]; rfl) [.int (Int32.ofNat n)] [] rfl pd7 rfl rfl 0 rfl (hb hby d4_10) (by decide) (by decide) (by decide) (by decide) fun T3 L3 v3 q3 X3 => ?_
  obtain ⟨rfl, e3, rfl⟩ := q3
  rw [List.append_nil] at X3
  show Go _ _ _ _ (T3.setTop (mkF m 13 #[.val (.ref o), .val (.ref a), .val (.int (0 : Int32)), .val (.int (Int32.ofNat n))] []))
  refine Go.step (fun _ k => XS.aloadN X3.here hx rfl (hb hby d4_13) rfl rfl k) ?_
  show Go _ _ _ _ (T3.setTop (mkF m 14 #[.val (.ref o), .val (.ref a), .val (.int (0 : Int32)), .val (.int (Int32.ofNat n))] [(.ref a)]))
  refine Go.step (fun _ k => XS.iloadN X3.here hx rfl (hb hby d4_14) rfl k) ?_
  show Go _ _ _ _ (T3.setTop (mkF m 15 #[.val (.ref o), .val (.ref a), .val (.int (0 : Int32)), .val (.int (Int32.ofNat n))] [(.int (0 : Int32)), (.ref a)]))
  refine Go.step (fun _ k => XS.aloadN X3.here hx rfl (hb hby d4_15) rfl rfl k) ?_
  show Go _ _ _ _ (T3.setTop (mkF m 16 #[.val (.ref o), .val (.ref a), .val (.int (0 : Int32)), .val (.int (Int32.ofNat n))] [(.ref o), (.int (0 : Int32)), (.ref a)]))
  obtain ⟨T4, X4, e4, st4⟩ := getF X3 hx hZ hown (host := "") (Or.inl (hw _ (List.mem_of_getElem? (i := 17) rfl))) Via.refl e3 Fb (g := (mkF m 16 #[.val (.ref o), .val (.ref a), .val (.int (0 : Int32)), .val (.int (Int32.ofNat n))] [(.ref o), (.int (0 : Int32)), (.ref a)])) rfl rfl (hb hby d4_16)
  refine Go.step st4 ?_
  show Go _ _ _ _ (T4.setTop (mkF m 19 #[.val (.ref o), .val (.ref a), .val (.int (0 : Int32)), .val (.int (Int32.ofNat n))] [(.ref b), (.int (0 : Int32)), (.ref a)]))
  refine Go.step (fun _ k => XS.aloadN X4.here hx rfl (hb hby d4_19) rfl rfl k) ?_
  show Go _ _ _ _ (T4.setTop (mkF m 20 #[.val (.ref o), .val (.ref a), .val (.int (0 : Int32)), .val (.int (Int32.ofNat n))] [(.ref o), (.ref b), (.int (0 : Int32)), (.ref a)]))
  obtain ⟨T5, X5, e5, st5⟩ := getF X4 hx hZ hown (host := "") (Or.inl (hw _ (List.mem_of_getElem? (i := 36) rfl))) Via.refl e4 Fs (g := (mkF m 20 #[.val (.ref o), .val (.ref a), .val (.int (0 : Int32)), .val (.int (Int32.ofNat n))] [(.ref o), (.ref b), (.int (0 : Int32)), (.ref a)])) rfl rfl (hb hby d4_20)
  refine Go.step st5 ?_
  show Go _ _ _ _ (T5.setTop (mkF m 23 #[.val (.ref o), .val (.ref a), .val (.int (0 : Int32)), .val (.int (Int32.ofNat n))] [(.int (Int32.ofNat 0)), (.ref b), (.int (0 : Int32)), (.ref a)]))
  refine Go.step (fun _ k => XS.iloadN X5.here hx rfl (hb hby d4_23) rfl k) ?_
  show Go _ _ _ _ (T5.setTop (mkF m 24 #[.val (.ref o), .val (.ref a), .val (.int (0 : Int32)), .val (.int (Int32.ofNat n))] [(.int (Int32.ofNat n)), (.int (Int32.ofNat 0)), (.ref b), (.int (0 : Int32)), (.ref a)]))
  obtain ⟨⟨kA, AA⟩, lA⟩ := BA
  obtain ⟨⟨kB, AB⟩, lB⟩ := BB
  have cn : (Int32.ofNat n).toNatClampNeg = n := own_clamp (by omega)
  have c0 : (0 : Int32).toNatClampNeg = 0 := rfl
  have c0' : (Int32.ofNat 0).toNatClampNeg = 0 := rfl
  have cM : (Int32.ofNat 70000).toNatClampNeg = 70000 := own_clamp (by omega)
  have cC : (Int32.ofNat 64).toNatClampNeg = 64 := own_clamp (by omega)
  obtain ⟨T9, h9, L9, X9, e9, N9, K9, V9, st9⟩ := cpA X5 hx hZ hown (hw _ (List.mem_of_getElem? (i := 59) rfl)) (hw _ (List.mem_of_getElem? (i := 58) rfl)) (hw _ (List.mem_of_getElem? (i := 56) rfl)) (hw _ (List.mem_of_getElem? (i := 57) rfl)) e5 AA AB (Or.inl ⟨rfl, rfl⟩) (sp := 0) (dp := Int32.ofNat 0) (nn := Int32.ofNat n) (by decide) (by decide) (own_nn (by omega)) (by rw [c0, cn, cM]; omega) (by rw [c0', cn, cC]; omega) rfl (by rw [c0', cn, lB]; omega) (n0 := n0) (Fr.nil n0) gb (g := (mkF m 24 #[.val (.ref o), .val (.ref a), .val (.int (0 : Int32)), .val (.int (Int32.ofNat n))] [(.int (Int32.ofNat n)), (.int (Int32.ofNat 0)), (.ref b), (.int (0 : Int32)), (.ref a)])) rfl (by rw [hml]; rfl) rfl (hb hby d4_24) (by decide) (W := 0) (by show 2 * 0 + _ ≤ _; exact Nat.le_of_eq rfl) (by decide)
  rw [c0', cn] at V9
  have B9 : ∃ vs', Bv Z h9 b 64 vs' := ⟨_, ⟨kB, V9⟩, by simp; omega⟩
  obtain ⟨vs9, B9⟩ := B9
  have E9 := E0.keep K9
  have Fb9 := Fb.keep K9 (ninS nob nin0)
  have Fs9 := Fs.keep K9 (ninS nob nin0)
  refine Go.step st9 ?_
  show Go _ _ _ _ (T9.setTop (mkF m 27 #[.val (.ref o), .val (.ref a), .val (.int (0 : Int32)), .val (.int (Int32.ofNat n))] []))
  refine Go.step (fun _ k => XS.aloadN X9.here hx rfl (hb hby d4_27) rfl rfl k) ?_
  show Go _ _ _ _ (T9.setTop (mkF m 28 #[.val (.ref o), .val (.ref a), .val (.int (0 : Int32)), .val (.int (Int32.ofNat n))] [(.ref o)]))
  refine Go.step (fun _ k => XS.dup X9.here hx rfl (hb hby d4_28) rfl rfl k) ?_
  show Go _ _ _ _ (T9.setTop (mkF m 29 #[.val (.ref o), .val (.ref a), .val (.int (0 : Int32)), .val (.int (Int32.ofNat n))] [(.ref o), (.ref o)]))
  obtain ⟨T6, X6, e6, st6⟩ := getF X9 hx hZ hown (host := "") (Or.inl (hw _ (List.mem_of_getElem? (i := 36) rfl))) Via.refl e9 Fs9 (g := (mkF m 29 #[.val (.ref o), .val (.ref a), .val (.int (0 : Int32)), .val (.int (Int32.ofNat n))] [(.ref o), (.ref o)])) rfl rfl (hb hby d4_29)
  refine Go.step st6 ?_
  show Go _ _ _ _ (T6.setTop (mkF m 32 #[.val (.ref o), .val (.ref a), .val (.int (0 : Int32)), .val (.int (Int32.ofNat n))] [(.int (Int32.ofNat 0)), (.ref o)]))
  refine Go.step (fun _ k => XS.iloadN X6.here hx rfl (hb hby d4_32) rfl k) ?_
  show Go _ _ _ _ (T6.setTop (mkF m 33 #[.val (.ref o), .val (.ref a), .val (.int (0 : Int32)), .val (.int (Int32.ofNat n))] [(.int (Int32.ofNat n)), (.int (Int32.ofNat 0)), (.ref o)]))
  refine Go.step (fun _ k => XS.iadd X6.here hx rfl (hb hby d4_33) rfl k) ?_
  rw [own_add, Nat.zero_add]
  show Go _ _ _ _ (T6.setTop (mkF m 34 #[.val (.ref o), .val (.ref a), .val (.int (0 : Int32)), .val (.int (Int32.ofNat n))] [(.int (Int32.ofNat n)), (.ref o)]))
  obtain ⟨T7, h7, X7, e7, W7, st7⟩ := putF X6 hx hZ hown (host := "") (Or.inl (hw _ (List.mem_of_getElem? (i := 36) rfl))) Via.refl e6 Fs9 E9 (Or.inl (hw _ (List.mem_of_getElem? (i := 37) rfl))) (hw _ (List.mem_of_getElem? (i := 4) rfl)) (ty := .int) (by decide) rfl rfl (g := (mkF m 34 #[.val (.ref o), .val (.ref a), .val (.int (0 : Int32)), .val (.int (Int32.ofNat n))] [(.int (Int32.ofNat n)), (.ref o)])) rfl rfl (hb hby d4_34)
  have F7_bytes := Fb9.other W7 (Or.inr (slot_ne (Or.inl (hw _ (List.mem_of_getElem? (i := 18) rfl))) (Or.inl (hw _ (List.mem_of_getElem? (i := 37) rfl))) (by decide) (t := (.array .byte)) (t' := .int) (by decide) (by decide)))
  have F7_size := Fs9.same W7
  have E_7 := E9.wr W7
  have NF7 := Fr.snoc X7 N9 go
  refine Go.step st7 ?_
  have BZ := B9.keep (Keep.of_wr W7) (ninS (Ne.symm nob) nin0)
  show Go _ _ _ _ (T7.setTop (mkF m 37 #[.val (.ref o), .val (.ref a), .val (.int (0 : Int32)), .val (.int (Int32.ofNat n))] []))
  exact leafV X7 hx hret hlk (hb hby d4_37) ⟨rfl, NF7, 64, by omega, by omega, b, _, gb, nob, by rw [e7]; exact E_7, by rw [e7]; exact F7_bytes, by rw [e7]; exact F7_size, by rw [e7]; exact BZ⟩ (by decide) (by decide)
set_option maxRecDepth 65536 in
set_option maxHeartbeats 40000000 in
theorem rmWrb (l : Launch) (Z : State) (a0 : Array Value) (hw : ∀ d ∈ tables_1, d.before a0 Z = true) (ws : List Jvm.Cond)  (h0 : Heap) (o a : Addr) (n n0 : Nat) (va : List Value) (BA : Bv Z h0 a 70000 va) (M : Mb Z h0 o n0 64 0) (hn : n ≤ 70000) (nao : a ≠ o) (Z0 : n0 ≤ h0.size) (go : n0 ≤ o) (h64 : 64 < n) : Con l Z (⟨"com/example/farcall/farcall/MessageBuffer", "write", "([BII)V"⟩ : MethodName) prog_51_method_3_code 4 none ws ({ frames := 3, cells := 1, slots := 70064, locals := 60 } : Room) #[(.ref o), (.ref a), (.int (0 : Int32)), (.int (Int32.ofNat n))] h0 (fun v h L => v = none ∧ Fr n0 L ∧ ∃ cap, 64 ≤ cap ∧ cap ≤ 70064 ∧ Mb Z h o n0 cap n) := by
  refine Con.of pn4 fun p e s m below meth c s₁ hZ hx hby hml hown hret hlk hnm X0 e0 => ?_
  rw [ef4]
  obtain ⟨b, vs, gb, nob, E0, Fb, Fs, BB⟩ := M
  show Go _ _ _ _ (s₁.setTop (mkF m 0 #[.val (.ref o), .val (.ref a), .val (.int (0 : Int32)), .val (.int (Int32.ofNat n))] []))
  refine Go.step (fun _ k => XS.iloadN X0.here hx rfl (hb hby d4_0) rfl k) ?_
  show Go _ _ _ _ (s₁.setTop (mkF m 1 #[.val (.ref o), .val (.ref a), .val (.int (0 : Int32)), .val (.int (Int32.ofNat n))] [(.int (0 : Int32))]))
  refine Go.step (fun _ k => XS.iloadN X0.here hx rfl (hb hby d4_1) rfl k) ?_
  show Go _ _ _ _ (s₁.setTop (mkF m 2 #[.val (.ref o), .val (.ref a), .val (.int (0 : Int32)), .val (.int (Int32.ofNat n))] [(.int (Int32.ofNat n)), (.int (0 : Int32))]))
  refine Go.step (fun _ k => XS.aloadN X0.here hx rfl (hb hby d4_2) rfl rfl k) ?_
  show Go _ _ _ _ (s₁.setTop (mkF m 3 #[.val (.ref o), .val (.ref a), .val (.int (0 : Int32)), .val (.int (Int32.ofNat n))] [(.ref a), (.int (Int32.ofNat n)), (.int (0 : Int32))]))
  obtain ⟨⟨k1, cl1, Ar1, q1, S1, N1, H1, G1⟩, l1⟩ := id BA
  refine Go.step (fun tg k => X0.arraylength hx (by rw [e0]; exact Ar1.1) (State.isArrayOf_alike hZ.alike Ar1.2.1) (g := (mkF m 3 #[.val (.ref o), .val (.ref a), .val (.int (0 : Int32)), .val (.int (Int32.ofNat n))] [(.ref a), (.int (Int32.ofNat n)), (.int (0 : Int32))])) rfl rfl (hb hby d4_3) tg k) ?_
  rw [len_of S1 N1]
  show Go _ _ _ _ (s₁.setTop (mkF m 4 #[.val (.ref o), .val (.ref a), .val (.int (0 : Int32)), .val (.int (Int32.ofNat n))] [(.int (Int32.ofNat 70000)), (.int (Int32.ofNat n)), (.int (0 : Int32))]))
  refine goS X0 hx hZ hown (hw _ (List.mem_of_getElem? (i := 24) rfl)) (hw _ (List.mem_of_getElem? (i := 25) rfl)) (hw _ (List.mem_of_getElem? (i := 26) rfl)) (hw _ (List.mem_of_getElem? (i := 27) rfl)) (by decide) (rm5 l Z a0 hw [] h0 n 70000 hn (by omega)) e0 (by rw [hml]; rfl) [(.int (0 : Int32)), (.int (Int32.ofNat n)), (.int (Int32.ofNat 70000))] [] rfl pd5 rfl rfl 0 rfl (hb hby d4_4) (by decide) (by decide) (by decide) (by decide) fun T2 L2 v2 q2 X2 => ?_
  obtain ⟨rfl, e2, rfl⟩ := q2
  rw [List.append_nil] at X2
  show Go _ _ _ _ (T2.setTop (mkF m 7 #[.val (.ref o), .val (.ref a), .val (.int (0 : Int32)), .val (.int (Int32.ofNat n))] [(.int (0 : Int32))]))
  refine Go.step (fun _ k => XS.pop X2.here hx rfl (hb hby d4_7) rfl rfl k) ?_
  show Go _ _ _ _ (T2.setTop (mkF m 8 #[.val (.ref o), .val (.ref a), .val (.int (0 : Int32)), .val (.int (Int32.ofNat n))] []))
  refine Go.step (fun _ k => XS.aloadN X2.here hx rfl (hb hby d4_8) rfl rfl k) ?_
  show Go _ _ _ _ (T2.setTop (mkF m 9 #[.val (.ref o), .val (.ref a), .val (.int (0 : Int32)), .val (.int (Int32.ofNat n))] [(.ref o)]))
  refine Go.step (fun _ k => XS.iloadN X2.here hx rfl (hb hby d4_9) rfl k) ?_
  show Go _ _ _ _ (T2.setTop (mkF m 10 #[.val (.ref o), .val (.ref a), .val (.int (0 : Int32)), .val (.int (Int32.ofNat n))] [(.int (Int32.ofNat n)), (.ref o)]))
  refine goP X2 hx hZ (C := "com/example/farcall/farcall/MessageBuffer") hown (hw _ (List.mem_of_getElem? (i := 32) rfl)) (own_sel hZ (x := ⟨"com/example/farcall/farcall/MessageBuffer", "size", "()I"⟩) (hw _ (List.mem_of_getElem? (i := 63) rfl)) (hw _ (List.mem_of_getElem? (i := 33) rfl)) (hw _ (List.mem_of_getElem? (i := 34) rfl)) rfl (by decide)) (hw _ (List.mem_of_getElem? (i := 33) rfl)) (hw _ (List.mem_of_getElem? (i := 34) rfl)) (hw _ (List.mem_of_getElem? (i := 5) rfl)) (hw _ (List.mem_of_getElem? (i := 35) rfl)) (by decide) (rmEb l Z a0 hw [] h0 o b n n0 vs E0 Fb Fs BB h64 hn Z0 go) e2 E0 (by rw [hml]; rfl) [.int (Int32.ofNat n)] [] rfl pd7 rfl rfl 0 rfl (hb hby d4_10) (by decide) (by decide) (by decide) (by decide) fun T3 L3 v3 q3 X3 => ?_
  obtain ⟨rfl, N3, K3, b1, vs1, gb1, nob1, E1, Fb1, Fs1, BB1⟩ := q3
  have BA1 := BA.keep K3 (ninS nao nin0)
  show Go _ _ _ _ (T3.setTop (mkF m 13 #[.val (.ref o), .val (.ref a), .val (.int (0 : Int32)), .val (.int (Int32.ofNat n))] []))
  refine Go.step (fun _ k => XS.aloadN X3.here hx rfl (hb hby d4_13) rfl rfl k) ?_
  show Go _ _ _ _ (T3.setTop (mkF m 14 #[.val (.ref o), .val (.ref a), .val (.int (0 : Int32)), .val (.int (Int32.ofNat n))] [(.ref a)]))
  refine Go.step (fun _ k => XS.iloadN X3.here hx rfl (hb hby d4_14) rfl k) ?_
  show Go _ _ _ _ (T3.setTop (mkF m 15 #[.val (.ref o), .val (.ref a), .val (.int (0 : Int32)), .val (.int (Int32.ofNat n))] [(.int (0 : Int32)), (.ref a)]))
  refine Go.step (fun _ k => XS.aloadN X3.here hx rfl (hb hby d4_15) rfl rfl k) ?_
  show Go _ _ _ _ (T3.setTop (mkF m 16 #[.val (.ref o), .val (.ref a), .val (.int (0 : Int32)), .val (.int (Int32.ofNat n))] [(.ref o), (.int (0 : Int32)), (.ref a)]))
  obtain ⟨T4, X4, e4, st4⟩ := getF X3 hx hZ hown (host := "") (Or.inl (hw _ (List.mem_of_getElem? (i := 17) rfl))) Via.refl rfl Fb1 (g := (mkF m 16 #[.val (.ref o), .val (.ref a), .val (.int (0 : Int32)), .val (.int (Int32.ofNat n))] [(.ref o), (.int (0 : Int32)), (.ref a)])) rfl rfl (hb hby d4_16)
  refine Go.step st4 ?_
  show Go _ _ _ _ (T4.setTop (mkF m 19 #[.val (.ref o), .val (.ref a), .val (.int (0 : Int32)), .val (.int (Int32.ofNat n))] [(.ref b1), (.int (0 : Int32)), (.ref a)]))
  refine Go.step (fun _ k => XS.aloadN X4.here hx rfl (hb hby d4_19) rfl rfl k) ?_
  show Go _ _ _ _ (T4.setTop (mkF m 20 #[.val (.ref o), .val (.ref a), .val (.int (0 : Int32)), .val (.int (Int32.ofNat n))] [(.ref o), (.ref b1), (.int (0 : Int32)), (.ref a)]))
  obtain ⟨T5, X5, e5, st5⟩ := getF X4 hx hZ hown (host := "") (Or.inl (hw _ (List.mem_of_getElem? (i := 36) rfl))) Via.refl e4 Fs1 (g := (mkF m 20 #[.val (.ref o), .val (.ref a), .val (.int (0 : Int32)), .val (.int (Int32.ofNat n))] [(.ref o), (.ref b1), (.int (0 : Int32)), (.ref a)])) rfl rfl (hb hby d4_20)
  refine Go.step st5 ?_
  show Go _ _ _ _ (T5.setTop (mkF m 23 #[.val (.ref o), .val (.ref a), .val (.int (0 : Int32)), .val (.int (Int32.ofNat n))] [(.int (Int32.ofNat 0)), (.ref b1), (.int (0 : Int32)), (.ref a)]))
  refine Go.step (fun _ k => XS.iloadN X5.here hx rfl (hb hby d4_23) rfl k) ?_
  show Go _ _ _ _ (T5.setTop (mkF m 24 #[.val (.ref o), .val (.ref a), .val (.int (0 : Int32)), .val (.int (Int32.ofNat n))] [(.int (Int32.ofNat n)), (.int (Int32.ofNat 0)), (.ref b1), (.int (0 : Int32)), (.ref a)]))
  obtain ⟨⟨kA, AA⟩, lA⟩ := BA1
  obtain ⟨⟨kB, AB⟩, lB⟩ := BB1
  have cn : (Int32.ofNat n).toNatClampNeg = n := own_clamp (by omega)
  have c0 : (0 : Int32).toNatClampNeg = 0 := rfl
  have c0' : (Int32.ofNat 0).toNatClampNeg = 0 := rfl
  have cM : (Int32.ofNat 70000).toNatClampNeg = 70000 := own_clamp (by omega)
  have cC : (Int32.ofNat (n + 64)).toNatClampNeg = (n + 64) := own_clamp (by omega)
  obtain ⟨T9, h9, L9, X9, e9, N9, K9, V9, st9⟩ := cpA X5 hx hZ hown (hw _ (List.mem_of_getElem? (i := 59) rfl)) (hw _ (List.mem_of_getElem? (i := 58) rfl)) (hw _ (List.mem_of_getElem? (i := 56) rfl)) (hw _ (List.mem_of_getElem? (i := 57) rfl)) e5 AA AB (Or.inl ⟨rfl, rfl⟩) (sp := 0) (dp := Int32.ofNat 0) (nn := Int32.ofNat n) (by decide) (by decide) (own_nn (by omega)) (by rw [c0, cn, cM]; omega) (by rw [c0', cn, cC]; omega) rfl (by rw [c0', cn, lB]; omega) (n0 := n0) (Fr.app (Fr.nil n0) N3) gb1 (g := (mkF m 24 #[.val (.ref o), .val (.ref a), .val (.int (0 : Int32)), .val (.int (Int32.ofNat n))] [(.int (Int32.ofNat n)), (.int (Int32.ofNat 0)), (.ref b1), (.int (0 : Int32)), (.ref a)])) rfl (by rw [hml]; rfl) rfl (hb hby d4_24) (by decide) (W := 0) (by show 2 * 0 + _ ≤ _; exact Nat.le_of_eq rfl) (by decide)
  rw [c0', cn] at V9
  have B9 : ∃ vs', Bv Z h9 b1 (n + 64) vs' := ⟨_, ⟨kB, V9⟩, by simp; omega⟩
  obtain ⟨vs9, B9⟩ := B9
  have E9 := E1.keep K9
  have Fb9 := Fb1.keep K9 (ninS nob1 nin0)
  have Fs9 := Fs1.keep K9 (ninS nob1 nin0)
  refine Go.step st9 ?_
  show Go _ _ _ _ (T9.setTop (mkF m 27 #[.val (.ref o), .val (.ref a), .val (.int (0 : Int32)), .val (.int (Int32.ofNat n))] []))
  refine Go.step (fun _ k => XS.aloadN X9.here hx rfl (hb hby d4_27) rfl rfl k) ?_
  show Go _ _ _ _ (T9.setTop (mkF m 28 #[.val (.ref o), .val (.ref a), .val (.int (0 : Int32)), .val (.int (Int32.ofNat n))] [(.ref o)]))
  refine Go.step (fun _ k => XS.dup X9.here hx rfl (hb hby d4_28) rfl rfl k) ?_
  show Go _ _ _ _ (T9.setTop (mkF m 29 #[.val (.ref o), .val (.ref a), .val (.int (0 : Int32)), .val (.int (Int32.ofNat n))] [(.ref o), (.ref o)]))
  obtain ⟨T6, X6, e6, st6⟩ := getF X9 hx hZ hown (host := "") (Or.inl (hw _ (List.mem_of_getElem? (i := 36) rfl))) Via.refl e9 Fs9 (g := (mkF m 29 #[.val (.ref o), .val (.ref a), .val (.int (0 : Int32)), .val (.int (Int32.ofNat n))] [(.ref o), (.ref o)])) rfl rfl (hb hby d4_29)
  refine Go.step st6 ?_
  show Go _ _ _ _ (T6.setTop (mkF m 32 #[.val (.ref o), .val (.ref a), .val (.int (0 : Int32)), .val (.int (Int32.ofNat n))] [(.int (Int32.ofNat 0)), (.ref o)]))
  refine Go.step (fun _ k => XS.iloadN X6.here hx rfl (hb hby d4_32) rfl k) ?_
  show Go _ _ _ _ (T6.setTop (mkF m 33 #[.val (.ref o), .val (.ref a), .val (.int (0 : Int32)), .val (.int (Int32.ofNat n))] [(.int (Int32.ofNat n)), (.int (Int32.ofNat 0)), (.ref o)]))
  refine Go.step (fun _ k => XS.iadd X6.here hx rfl (hb hby d4_33) rfl k) ?_
  rw [own_add, Nat.zero_add]
  show Go _ _ _ _ (T6.setTop (mkF m 34 #[.val (.ref o), .val (.ref a), .val (.int (0 : Int32)), .val (.int (Int32.ofNat n))] [(.int (Int32.ofNat n)), (.ref o)]))
  obtain ⟨T7, h7, X7, e7, W7, st7⟩ := putF X6 hx hZ hown (host := "") (Or.inl (hw _ (List.mem_of_getElem? (i := 36) rfl))) Via.refl e6 Fs9 E9 (Or.inl (hw _ (List.mem_of_getElem? (i := 37) rfl))) (hw _ (List.mem_of_getElem? (i := 4) rfl)) (ty := .int) (by decide) rfl rfl (g := (mkF m 34 #[.val (.ref o), .val (.ref a), .val (.int (0 : Int32)), .val (.int (Int32.ofNat n))] [(.int (Int32.ofNat n)), (.ref o)])) rfl rfl (hb hby d4_34)
  have F7_bytes := Fb9.other W7 (Or.inr (slot_ne (Or.inl (hw _ (List.mem_of_getElem? (i := 18) rfl))) (Or.inl (hw _ (List.mem_of_getElem? (i := 37) rfl))) (by decide) (t := (.array .byte)) (t' := .int) (by decide) (by decide)))
  have F7_size := Fs9.same W7
  have E_7 := E9.wr W7
  have NF7 := Fr.snoc X7 N9 go
  refine Go.step st7 ?_
  have BZ := B9.keep (Keep.of_wr W7) (ninS (Ne.symm nob1) nin0)
  show Go _ _ _ _ (T7.setTop (mkF m 37 #[.val (.ref o), .val (.ref a), .val (.int (0 : Int32)), .val (.int (Int32.ofNat n))] []))
  exact leafV X7 hx hret hlk (hb hby d4_37) ⟨rfl, NF7, n + 64, by omega, by omega, b1, _, gb1, nob1, by rw [e7]; exact E_7, by rw [e7]; exact F7_bytes, by rw [e7]; exact F7_size, by rw [e7]; exact BZ⟩ (by decide) (by decide)
theorem rmWr (l : Launch) (Z : State) (a0 : Array Value) (hw : ∀ d ∈ tables_1, d.before a0 Z = true) (h0 : Heap) (o a : Addr) (n n0 : Nat) (va : List Value) (BA : Bv Z h0 a 70000 va) (M : Mb Z h0 o n0 64 0) (hn : n ≤ 70000) (nao : a ≠ o) (Z0 : n0 ≤ h0.size) (go : n0 ≤ o) :
    Con l Z (⟨"com/example/farcall/farcall/MessageBuffer", "write", "([BII)V"⟩ : MethodName) prog_51_method_3_code 4 none [] ({ frames := 3, cells := 1, slots := 70064, locals := 60 } : Room) #[.ref o, .ref a, .int (0 : Int32), .int (Int32.ofNat n)] h0 (fun v h L => v = none ∧ Fr n0 L ∧ ∃ cap, 64 ≤ cap ∧ cap ≤ 70064 ∧ Mb Z h o n0 cap n) := by
  by_cases q : n ≤ 64
  · exact rmWra l Z a0 hw [] h0 o a n n0 va BA M hn nao Z0 go q
  · exact rmWrb l Z a0 hw [] h0 o a n n0 va BA M hn nao Z0 go (by omega)

theorem own_len1 (a : Int32) : ∃ n : Nat, n ≤ 70000 ∧ ((61808 : Int32) + (a &&& (8191 : Int32))) = Int32.ofNat n := by
  have h := c_mask a 8191 13 (by decide) (by decide)
  rw [show ((2 ^ 13 : Nat) : Int) = 8192 from rfl] at h
  obtain ⟨n, n1, n2, n3⟩ := own_nat (a &&& 8191) (by rw [h]; omega)
  refine ⟨61808 + n, by omega, ?_⟩
  rw [n3]; exact own_add 61808 n
theorem own_len2 (a : Int32) : ∃ n : Nat, n ≤ 70000 ∧ ((a &&& (2147483647 : Int32)) - ((a &&& (2147483647 : Int32)) / (70001 : Int32)) * (70001 : Int32)) = Int32.ofNat n := by
  obtain ⟨n, n1, n2⟩ := own_mod (a &&& (2147483647 : Int32)) (own_max a) 70001 (by decide) (by decide)
  exact ⟨n, by omega, n2⟩

theorem pn0 : plainFor x = true := plainFor_of_name (by first | (simp [plainName, overriddenIn, x]; done) | decide +kernel)
theorem ef0 (m : MethodId) (x0 : Int32) (x1 : Int32) (x2 : Int32) : entryFrame m #[(.int x0), (.int x1), (.int x2)] maxLocals = mkF m 0 #[.val (.int x0), .val (.int x1), .val (.int x2), .unset, .unset, .unset, .unset, .unset, .unset, .unset, .unset] [] := by first | (simp [entryFrame, mkF, argsToLocals, Value.category, maxLocals]; done) | rfl
set_option maxRecDepth 65536 in
set_option maxHeartbeats 40000000 in
theorem rm0 (l : Launch) (Z : State) (a0 : Array Value) (hw : ∀ d ∈ tables_1, d.before a0 Z = true) (ws : List Jvm.Cond) (x0 : Int32) (x1 : Int32) (x2 : Int32) (h0 : Heap) : Con l Z x code maxLocals ret ws room_1 #[(.int x0), (.int x1), (.int x2)] h0 (fun v h L => v = some (.int 1) ∧ Fr h0.size L) := by
  refine Con.of pn0 fun p e s m below meth c s₁ hZ hx hby hml hown hret hlk hnm X0 e0 => ?_
  rw [ef0]
  show Go _ _ _ _ (s₁.setTop (mkF m 0 #[.val (.int x0), .val (.int x1), .val (.int x2), .unset, .unset, .unset, .unset, .unset, .unset, .unset, .unset] []))
  refine Go.step (X0.ldcInt hx hown (mvT hZ (hw _ (List.mem_of_getElem? (i := 0) rfl))) (g := (mkF m 0 #[.val (.int x0), .val (.int x1), .val (.int x2), .unset, .unset, .unset, .unset, .unset, .unset, .unset, .unset] [])) rfl (hb hby at_0)) ?_
  show Go _ _ _ _ (s₁.setTop (mkF m 2 #[.val (.int x0), .val (.int x1), .val (.int x2), .unset, .unset, .unset, .unset, .unset, .unset, .unset, .unset] [(.int (70000 : Int32))]))
  obtain ⟨T1, h1, kG, X1, e1, E1, A1, st1⟩ := newP X0 hx hZ (hw _ (List.mem_of_getElem? (i := 1) rfl)) e0 (g := (mkF m 2 #[.val (.int x0), .val (.int x1), .val (.int x2), .unset, .unset, .unset, .unset, .unset, .unset, .unset, .unset] [(.int (70000 : Int32))])) rfl (hb hby at_2) rfl (by decide) (cap := 70000) (by decide) (by decide) (by decide) (by decide)
  obtain ⟨bg, gbg⟩ : ∃ z, z = h0.size := ⟨_, rfl⟩
  rw [← gbg] at A1 st1
  obtain ⟨va, BA⟩ : ∃ va, Bv Z h1 bg 70000 va := ⟨_, Bv.fresh A1 (by omega)⟩
  have gg : h0.size ≤ bg := Nat.le_of_eq gbg.symm
  refine Go.step st1 ?_
  show Go _ _ _ _ (T1.setTop (mkF m 4 #[.val (.int x0), .val (.int x1), .val (.int x2), .unset, .unset, .unset, .unset, .unset, .unset, .unset, .unset] [(.ref bg)]))
  refine Go.step (fun _ k => XS.astoreN X1.here hx rfl (hb hby at_4) rfl rfl (l' := #[.val (.int x0), .val (.int x1), .val (.int x2), .val (.ref bg), .unset, .unset, .unset, .unset, .unset, .unset, .unset]) rfl k) ?_
  show Go _ _ _ _ (T1.setTop (mkF m 5 #[.val (.int x0), .val (.int x1), .val (.int x2), .val (.ref bg), .unset, .unset, .unset, .unset, .unset, .unset, .unset] []))
  have tail : ∀ n : Nat, n ≤ 70000 → Go p.tables e below (EndsAs s room_1.cells room_1.slots (fun v h L => v = some (.int 1) ∧ Fr h0.size L)) (T1.setTop (mkF m 31 #[.val (.int x0), .val (.int x1), .val (.int x2), .val (.ref bg), .val (.int (Int32.ofNat n)), .unset, .unset, .unset, .unset, .unset, .unset] [])) := by
    intro n hn
    show Go _ _ _ _ (T1.setTop (mkF m 31 #[.val (.int x0), .val (.int x1), .val (.int x2), .val (.ref bg), .val (.int (Int32.ofNat n)), .unset, .unset, .unset, .unset, .unset, .unset] []))
    refine Go.step (fun _ k => XS.iload X1.here hx rfl (hb hby at_31) rfl k) ?_
    show Go _ _ _ _ (T1.setTop (mkF m 33 #[.val (.int x0), .val (.int x1), .val (.int x2), .val (.ref bg), .val (.int (Int32.ofNat n)), .unset, .unset, .unset, .unset, .unset, .unset] [(.int (Int32.ofNat n))]))
    by_cases hc2 : (0 : Int32) < (Int32.ofNat n)
    · refine Go.step (fun _ k => XS.ifNo X1.here hx rfl (hb hby at_33) rfl ((if0 _ _).trans (tlt hc2).2.2.2) k) ?_
      show Go _ _ _ _ (T1.setTop (mkF m 36 #[.val (.int x0), .val (.int x1), .val (.int x2), .val (.ref bg), .val (.int (Int32.ofNat n)), .unset, .unset, .unset, .unset, .unset, .unset] []))
      refine Go.step (fun _ k => XS.aloadN X1.here hx rfl (hb hby at_36) rfl rfl k) ?_
      show Go _ _ _ _ (T1.setTop (mkF m 37 #[.val (.int x0), .val (.int x1), .val (.int x2), .val (.ref bg), .val (.int (Int32.ofNat n)), .unset, .unset, .unset, .unset, .unset, .unset] [(.ref bg)]))
      refine Go.step (fun _ k => XS.iload X1.here hx rfl (hb hby at_37) rfl k) ?_
      show Go _ _ _ _ (T1.setTop (mkF m 39 #[.val (.int x0), .val (.int x1), .val (.int x2), .val (.ref bg), .val (.int (Int32.ofNat n)), .unset, .unset, .unset, .unset, .unset, .unset] [(.int (Int32.ofNat n)), (.ref bg)]))
      refine Go.step (fun _ k => XS.iconst X1.here hx rfl (hb hby at_39) k) ?_
      show Go _ _ _ _ (T1.setTop (mkF m 40 #[.val (.int x0), .val (.int x1), .val (.int x2), .val (.ref bg), .val (.int (Int32.ofNat n)), .unset, .unset, .unset, .unset, .unset, .unset] [(.int (1 : Int32)), (.int (Int32.ofNat n)), (.ref bg)]))
      refine Go.step (fun _ k => XS.isub X1.here hx rfl (hb hby at_40) rfl k) ?_
      have np : 0 < n := (own_lt (i := 0) (by omega) (by omega)).mp hc2
      rw [show (Int32.ofNat n - (1 : Int32)) = Int32.ofNat (n - 1) from own_sub (b := 1) (by omega) (by omega)]
      show Go _ _ _ _ (T1.setTop (mkF m 41 #[.val (.int x0), .val (.int x1), .val (.int x2), .val (.ref bg), .val (.int (Int32.ofNat n)), .unset, .unset, .unset, .unset, .unset, .unset] [(.int (Int32.ofNat (n - 1))), (.ref bg)]))
      refine Go.step (fun _ k => XS.iloadN X1.here hx rfl (hb hby at_41) rfl k) ?_
      show Go _ _ _ _ (T1.setTop (mkF m 42 #[.val (.int x0), .val (.int x1), .val (.int x2), .val (.ref bg), .val (.int (Int32.ofNat n)), .unset, .unset, .unset, .unset, .unset, .unset] [(.int x1), (.int (Int32.ofNat (n - 1))), (.ref bg)]))
      refine Go.step (fun _ k => XS.iconst X1.here hx rfl (hb hby at_42) k) ?_
      show Go _ _ _ _ (T1.setTop (mkF m 43 #[.val (.int x0), .val (.int x1), .val (.int x2), .val (.ref bg), .val (.int (Int32.ofNat n)), .unset, .unset, .unset, .unset, .unset, .unset] [(.int (1 : Int32)), (.int x1), (.int (Int32.ofNat (n - 1))), (.ref bg)]))
      refine Go.step (fun _ k => XS.iushr X1.here hx rfl (hb hby at_43) rfl k) ?_
      show Go _ _ _ _ (T1.setTop (mkF m 44 #[.val (.int x0), .val (.int x1), .val (.int x2), .val (.ref bg), .val (.int (Int32.ofNat n)), .unset, .unset, .unset, .unset, .unset, .unset] [(.int ((x1.toUInt32 >>> ((1 : Int32) &&& 31).toUInt32).toInt32)), (.int (Int32.ofNat (n - 1))), (.ref bg)]))
      refine Go.step (fun _ k => XS.i2b X1.here hx rfl (hb hby at_44) rfl k) ?_
      show Go _ _ _ _ (T1.setTop (mkF m 45 #[.val (.int x0), .val (.int x1), .val (.int x2), .val (.ref bg), .val (.int (Int32.ofNat n)), .unset, .unset, .unset, .unset, .unset, .unset] [(.int (((x1.toUInt32 >>> ((1 : Int32) &&& 31).toUInt32).toInt32).toInt8.toInt32)), (.int (Int32.ofNat (n - 1))), (.ref bg)]))
      obtain ⟨⟨kB, cB, Ar, q1, S, N_, H, G⟩, l_⟩ := BA
      obtain ⟨T3, h3, X3, e3, W3, st3⟩ := stB X1 hx hZ e1 Ar (j := Int32.ofNat (n - 1)) (own_in (by rw [S, own_clamp (by omega)]; omega) (by omega)) (g := (mkF m 45 #[.val (.int x0), .val (.int x1), .val (.int x2), .val (.ref bg), .val (.int (Int32.ofNat n)), .unset, .unset, .unset, .unset, .unset, .unset] [(.int (((x1.toUInt32 >>> ((1 : Int32) &&& 31).toUInt32).toInt32).toInt8.toInt32)), (.int (Int32.ofNat (n - 1))), (.ref bg)])) rfl rfl (hb hby at_45)
      have BA3 := Bv.set (i := n - 1) (by omega) (by omega) Ar q1 S N_ H G l_ W3
      have NG := Fr.snoc X3 (Fr.nil h0.size) gg
      refine Go.step st3 ?_
      show Go _ _ _ _ (T3.setTop (mkF m 46 #[.val (.int x0), .val (.int x1), .val (.int x2), .val (.ref bg), .val (.int (Int32.ofNat n)), .unset, .unset, .unset, .unset, .unset, .unset] []))
      obtain ⟨T4, h4, X4, e4, E4, A4, D4, -, st4⟩ := newO X3 hx hZ hown (hw _ (List.mem_of_getElem? (i := 3) rfl)) (hw _ (List.mem_of_getElem? (i := 4) rfl)) (hw _ (List.mem_of_getElem? (i := 5) rfl)) e3 (g := (mkF m 46 #[.val (.int x0), .val (.int x1), .val (.int x2), .val (.ref bg), .val (.int (Int32.ofNat n)), .unset, .unset, .unset, .unset, .unset, .unset] [])) rfl (hb hby at_46) (by decide) (by decide)
      obtain ⟨b4, g4⟩ : ∃ z, z = h3.size := ⟨_, rfl⟩
      rw [← g4] at A4 D4 st4
      have F4_bytes : Fld Z h4 b4 "com/example/farcall/farcall/MessageBuffer" "bytes" "[B" .null := D4 (Or.inl (hw _ (List.mem_of_getElem? (i := 18) rfl))) (ty := (.array .byte)) (by decide)
      have F4_size : Fld Z h4 b4 "com/example/farcall/farcall/MessageBuffer" "size" "I" (.int (0 : Int32)) := D4 (Or.inl (hw _ (List.mem_of_getElem? (i := 37) rfl))) (ty := .int) (by decide)
      refine Go.step st4 ?_
      have ZB : h0.size ≤ h4.size := Nat.le_trans gg (Nat.le_of_lt (BA3.keep ((Keep.refl _ []).ext E4) nin0).lt)
      have go : h0.size ≤ b4 := Nat.le_trans gg (Nat.le_trans (Nat.le_of_lt BA3.lt) (Nat.le_of_eq g4.symm))
      have nbo : bg ≠ b4 := Nat.ne_of_lt (Nat.lt_of_lt_of_le BA3.lt (Nat.le_of_eq g4.symm))
      have BAo := BA3.keep ((Keep.refl _ []).ext E4) nin0
      show Go _ _ _ _ (T4.setTop (mkF m 49 #[.val (.int x0), .val (.int x1), .val (.int x2), .val (.ref bg), .val (.int (Int32.ofNat n)), .unset, .unset, .unset, .unset, .unset, .unset] [(.ref b4)]))
      refine Go.step (fun _ k => XS.dup X4.here hx rfl (hb hby at_49) rfl rfl k) ?_
      show Go _ _ _ _ (T4.setTop (mkF m 50 #[.val (.int x0), .val (.int x1), .val (.int x2), .val (.ref bg), .val (.int (Int32.ofNat n)), .unset, .unset, .unset, .unset, .unset, .unset] [(.ref b4), (.ref b4)]))
      refine goI X4 hx hZ rfl hown (hw _ (List.mem_of_getElem? (i := 6) rfl)) (hw _ (List.mem_of_getElem? (i := 7) rfl)) (hw _ (List.mem_of_getElem? (i := 5) rfl)) (hw _ (List.mem_of_getElem? (i := 8) rfl)) (by decide) (rmI l Z a0 hw [] h4 b4 h0.size ZB go A4 F4_bytes F4_size) e4 (by rw [hml]; rfl) b4 [] [(.ref b4)] rfl pd1 rfl rfl 1 rfl (hb hby at_50) (by decide) (by decide) (by decide) (by decide) fun TC LC vC qC XC => ?_
      obtain ⟨rfl, NC, KC, M0⟩ := qC
      have BAc := BAo.keep KC (ninS nbo nin0)
      have EC : Exa Z TC.heap b4 "com/example/farcall/farcall/MessageBuffer" := M0.choose_spec.choose_spec.2.2.1
      have ZC := Nat.le_trans ZB KC.1
      show Go _ _ _ _ (TC.setTop (mkF m 53 #[.val (.int x0), .val (.int x1), .val (.int x2), .val (.ref bg), .val (.int (Int32.ofNat n)), .unset, .unset, .unset, .unset, .unset, .unset] [(.ref b4)]))
      refine Go.step (fun _ k => XS.astore XC.here hx rfl (hb hby at_53) rfl rfl (l' := #[.val (.int x0), .val (.int x1), .val (.int x2), .val (.ref bg), .val (.int (Int32.ofNat n)), .val (.ref b4), .unset, .unset, .unset, .unset, .unset]) rfl k) ?_
      show Go _ _ _ _ (TC.setTop (mkF m 55 #[.val (.int x0), .val (.int x1), .val (.int x2), .val (.ref bg), .val (.int (Int32.ofNat n)), .val (.ref b4), .unset, .unset, .unset, .unset, .unset] []))
      refine Go.step (fun _ k => XS.aload XC.here hx rfl (hb hby at_55) rfl rfl k) ?_
      show Go _ _ _ _ (TC.setTop (mkF m 57 #[.val (.int x0), .val (.int x1), .val (.int x2), .val (.ref bg), .val (.int (Int32.ofNat n)), .val (.ref b4), .unset, .unset, .unset, .unset, .unset] [(.ref b4)]))
      refine Go.step (fun _ k => XS.aloadN XC.here hx rfl (hb hby at_57) rfl rfl k) ?_
      show Go _ _ _ _ (TC.setTop (mkF m 58 #[.val (.int x0), .val (.int x1), .val (.int x2), .val (.ref bg), .val (.int (Int32.ofNat n)), .val (.ref b4), .unset, .unset, .unset, .unset, .unset] [(.ref bg), (.ref b4)]))
      refine Go.step (fun _ k => XS.iconst XC.here hx rfl (hb hby at_58) k) ?_
      show Go _ _ _ _ (TC.setTop (mkF m 59 #[.val (.int x0), .val (.int x1), .val (.int x2), .val (.ref bg), .val (.int (Int32.ofNat n)), .val (.ref b4), .unset, .unset, .unset, .unset, .unset] [(.int (0 : Int32)), (.ref bg), (.ref b4)]))
      refine Go.step (fun _ k => XS.iload XC.here hx rfl (hb hby at_59) rfl k) ?_
      show Go _ _ _ _ (TC.setTop (mkF m 61 #[.val (.int x0), .val (.int x1), .val (.int x2), .val (.ref bg), .val (.int (Int32.ofNat n)), .val (.ref b4), .unset, .unset, .unset, .unset, .unset] [(.int (Int32.ofNat n)), (.int (0 : Int32)), (.ref bg), (.ref b4)]))
      refine goV XC hx hZ hown (hw _ (List.mem_of_getElem? (i := 19) rfl)) (hw _ (List.mem_of_getElem? (i := 20) rfl)) (notFace_of_selects (args := #[]) (mvT hZ (hw _ (List.mem_of_getElem? (i := 22) rfl)))) (hw _ (List.mem_of_getElem? (i := 22) rfl)) (hw _ (List.mem_of_getElem? (i := 21) rfl)) (hw _ (List.mem_of_getElem? (i := 5) rfl)) (hw _ (List.mem_of_getElem? (i := 23) rfl)) (by decide) (rmWr l Z a0 hw TC.heap b4 bg n h0.size _ BAc M0 hn nbo ZC go) rfl EC (by rw [hml]; rfl) [(.ref bg), (.int (0 : Int32)), (.int (Int32.ofNat n))] [] rfl pd4 rfl rfl 0 rfl (hb hby at_61) (by decide) (by decide) (by decide) (by decide) fun TW LW vW qW XW => ?_
      obtain ⟨rfl, NW, cap1, c11, c12, M1⟩ := qW
      obtain ⟨b1, vs1, gb1, nob1, E1, Fb1, Fs1, BB1⟩ := id M1
      have Z1 : h0.size ≤ TW.heap.size := Nat.le_trans gb1 (Nat.le_of_lt BB1.lt)
      show Go _ _ _ _ (TW.setTop (mkF m 64 #[.val (.int x0), .val (.int x1), .val (.int x2), .val (.ref bg), .val (.int (Int32.ofNat n)), .val (.ref b4), .unset, .unset, .unset, .unset, .unset] []))
      refine Go.step (fun _ k => XS.aload XW.here hx rfl (hb hby at_64) rfl rfl k) ?_
      show Go _ _ _ _ (TW.setTop (mkF m 66 #[.val (.int x0), .val (.int x1), .val (.int x2), .val (.ref bg), .val (.int (Int32.ofNat n)), .val (.ref b4), .unset, .unset, .unset, .unset, .unset] [(.ref b4)]))
      refine goV XW hx hZ hown (hw _ (List.mem_of_getElem? (i := 60) rfl)) (hw _ (List.mem_of_getElem? (i := 61) rfl)) (notFace_of_selects (args := #[]) (mvT hZ (hw _ (List.mem_of_getElem? (i := 63) rfl)))) (hw _ (List.mem_of_getElem? (i := 63) rfl)) (hw _ (List.mem_of_getElem? (i := 62) rfl)) (hw _ (List.mem_of_getElem? (i := 5) rfl)) (hw _ (List.mem_of_getElem? (i := 64) rfl)) (by decide) (rmS l Z a0 hw [] TW.heap b4 n Fs1) rfl E1 (by rw [hml]; rfl) [] [] rfl pd12 rfl rfl 0 rfl (hb hby at_66) (by decide) (by decide) (by decide) (by decide) fun TSa LSa vSa qSa XSa => ?_
      obtain ⟨rfl, eSa, rfl⟩ := qSa
      rw [List.append_nil] at XSa
      show Go _ _ _ _ (TSa.setTop (mkF m 69 #[.val (.int x0), .val (.int x1), .val (.int x2), .val (.ref bg), .val (.int (Int32.ofNat n)), .val (.ref b4), .unset, .unset, .unset, .unset, .unset] [(.int (Int32.ofNat n))]))
      refine Go.step (fun _ k => XS.iload XSa.here hx rfl (hb hby at_69) rfl k) ?_
      show Go _ _ _ _ (TSa.setTop (mkF m 71 #[.val (.int x0), .val (.int x1), .val (.int x2), .val (.ref bg), .val (.int (Int32.ofNat n)), .val (.ref b4), .unset, .unset, .unset, .unset, .unset] [(.int (Int32.ofNat n)), (.int (Int32.ofNat n))]))
      refine Go.step (fun _ k => XS.icmpNo XSa.here hx rfl (hb hby at_71) rfl (teq rfl).2 k) ?_
      show Go _ _ _ _ (TSa.setTop (mkF m 74 #[.val (.int x0), .val (.int x1), .val (.int x2), .val (.ref bg), .val (.int (Int32.ofNat n)), .val (.ref b4), .unset, .unset, .unset, .unset, .unset] []))
      refine Go.step (fun _ k => XS.iconst XSa.here hx rfl (hb hby at_74) k) ?_
      show Go _ _ _ _ (TSa.setTop (mkF m 75 #[.val (.int x0), .val (.int x1), .val (.int x2), .val (.ref bg), .val (.int (Int32.ofNat n)), .val (.ref b4), .unset, .unset, .unset, .unset, .unset] [(.int (1 : Int32))]))
      refine Go.step (fun _ k => XS.goto XSa.here hx rfl (pc0 := 75) (pc' := 79) rfl (hb hby at_75) (by decide) (by decide) k) ?_
      show Go _ _ _ _ (TSa.setTop (mkF m 79 #[.val (.int x0), .val (.int x1), .val (.int x2), .val (.ref bg), .val (.int (Int32.ofNat n)), .val (.ref b4), .unset, .unset, .unset, .unset, .unset] [(.int (1 : Int32))]))
      refine Go.step (fun _ k => XS.istore XSa.here hx rfl (hb hby at_79) rfl (l' := #[.val (.int x0), .val (.int x1), .val (.int x2), .val (.ref bg), .val (.int (Int32.ofNat n)), .val (.ref b4), .val (.int (1 : Int32)), .unset, .unset, .unset, .unset]) rfl k) ?_
      show Go _ _ _ _ (TSa.setTop (mkF m 81 #[.val (.int x0), .val (.int x1), .val (.int x2), .val (.ref bg), .val (.int (Int32.ofNat n)), .val (.ref b4), .val (.int (1 : Int32)), .unset, .unset, .unset, .unset] []))
      refine Go.step (fun _ k => XS.aload XSa.here hx rfl (hb hby at_81) rfl rfl k) ?_
      show Go _ _ _ _ (TSa.setTop (mkF m 83 #[.val (.int x0), .val (.int x1), .val (.int x2), .val (.ref bg), .val (.int (Int32.ofNat n)), .val (.ref b4), .val (.int (1 : Int32)), .unset, .unset, .unset, .unset] [(.ref b4)]))
      refine goV XSa hx hZ hown (hw _ (List.mem_of_getElem? (i := 65) rfl)) (hw _ (List.mem_of_getElem? (i := 66) rfl)) (notFace_of_selects (args := #[]) (mvT hZ (hw _ (List.mem_of_getElem? (i := 68) rfl)))) (hw _ (List.mem_of_getElem? (i := 68) rfl)) (hw _ (List.mem_of_getElem? (i := 67) rfl)) (hw _ (List.mem_of_getElem? (i := 5) rfl)) (hw _ (List.mem_of_getElem? (i := 69) rfl)) (by decide) (rmR l Z a0 hw [] TW.heap b4 h0.size cap1 n Z1 go c11 c12 M1) eSa E1 (by rw [hml]; rfl) [] [] rfl pd13 rfl rfl 0 rfl (hb hby at_83) (by decide) (by decide) (by decide) (by decide) fun TR LR vR qR XR => ?_
      obtain ⟨rfl, NR, cap2, c21, c22, M2⟩ := qR
      obtain ⟨b2, vs2, gb2, nob2, E2, Fb2, Fs2, BB2⟩ := id M2
      have Z2 : h0.size ≤ TR.heap.size := Nat.le_trans gb2 (Nat.le_of_lt BB2.lt)
      show Go _ _ _ _ (TR.setTop (mkF m 86 #[.val (.int x0), .val (.int x1), .val (.int x2), .val (.ref bg), .val (.int (Int32.ofNat n)), .val (.ref b4), .val (.int (1 : Int32)), .unset, .unset, .unset, .unset] []))
      refine Go.step (fun _ k => XS.aload XR.here hx rfl (hb hby at_86) rfl rfl k) ?_
      show Go _ _ _ _ (TR.setTop (mkF m 88 #[.val (.int x0), .val (.int x1), .val (.int x2), .val (.ref bg), .val (.int (Int32.ofNat n)), .val (.ref b4), .val (.int (1 : Int32)), .unset, .unset, .unset, .unset] [(.ref b4)]))
      refine goV XR hx hZ hown (hw _ (List.mem_of_getElem? (i := 60) rfl)) (hw _ (List.mem_of_getElem? (i := 61) rfl)) (notFace_of_selects (args := #[]) (mvT hZ (hw _ (List.mem_of_getElem? (i := 63) rfl)))) (hw _ (List.mem_of_getElem? (i := 63) rfl)) (hw _ (List.mem_of_getElem? (i := 62) rfl)) (hw _ (List.mem_of_getElem? (i := 5) rfl)) (hw _ (List.mem_of_getElem? (i := 64) rfl)) (by decide) (rmS l Z a0 hw [] TR.heap b4 0 Fs2) rfl E2 (by rw [hml]; rfl) [] [] rfl pd12 rfl rfl 0 rfl (hb hby at_88) (by decide) (by decide) (by decide) (by decide) fun TSb LSb vSb qSb XSb => ?_
      obtain ⟨rfl, eSb, rfl⟩ := qSb
      rw [List.append_nil] at XSb
      show Go _ _ _ _ (TSb.setTop (mkF m 91 #[.val (.int x0), .val (.int x1), .val (.int x2), .val (.ref bg), .val (.int (Int32.ofNat n)), .val (.ref b4), .val (.int (1 : Int32)), .unset, .unset, .unset, .unset] [(.int (Int32.ofNat 0))]))
      refine Go.step (fun _ k => XS.ifNo XSb.here hx rfl (hb hby at_91) rfl ((if0 _ _).trans (teq rfl).2) k) ?_
      show Go _ _ _ _ (TSb.setTop (mkF m 94 #[.val (.int x0), .val (.int x1), .val (.int x2), .val (.ref bg), .val (.int (Int32.ofNat n)), .val (.ref b4), .val (.int (1 : Int32)), .unset, .unset, .unset, .unset] []))
      refine Go.step (fun _ k => XS.iconst XSb.here hx rfl (hb hby at_94) k) ?_
      show Go _ _ _ _ (TSb.setTop (mkF m 95 #[.val (.int x0), .val (.int x1), .val (.int x2), .val (.ref bg), .val (.int (Int32.ofNat n)), .val (.ref b4), .val (.int (1 : Int32)), .unset, .unset, .unset, .unset] [(.int (1 : Int32))]))
      refine Go.step (fun _ k => XS.goto XSb.here hx rfl (pc0 := 95) (pc' := 99) rfl (hb hby at_95) (by decide) (by decide) k) ?_
      show Go _ _ _ _ (TSb.setTop (mkF m 99 #[.val (.int x0), .val (.int x1), .val (.int x2), .val (.ref bg), .val (.int (Int32.ofNat n)), .val (.ref b4), .val (.int (1 : Int32)), .unset, .unset, .unset, .unset] [(.int (1 : Int32))]))
      refine Go.step (fun _ k => XS.istore XSb.here hx rfl (hb hby at_99) rfl (l' := #[.val (.int x0), .val (.int x1), .val (.int x2), .val (.ref bg), .val (.int (Int32.ofNat n)), .val (.ref b4), .val (.int (1 : Int32)), .val (.int (1 : Int32)), .unset, .unset, .unset]) rfl k) ?_
      show Go _ _ _ _ (TSb.setTop (mkF m 101 #[.val (.int x0), .val (.int x1), .val (.int x2), .val (.ref bg), .val (.int (Int32.ofNat n)), .val (.ref b4), .val (.int (1 : Int32)), .val (.int (1 : Int32)), .unset, .unset, .unset] []))
      refine Go.step (fun _ k => XS.aload XSb.here hx rfl (hb hby at_101) rfl rfl k) ?_
      show Go _ _ _ _ (TSb.setTop (mkF m 103 #[.val (.int x0), .val (.int x1), .val (.int x2), .val (.ref bg), .val (.int (Int32.ofNat n)), .val (.ref b4), .val (.int (1 : Int32)), .val (.int (1 : Int32)), .unset, .unset, .unset] [(.ref b4)]))
      refine goV XSb hx hZ hown (hw _ (List.mem_of_getElem? (i := 71) rfl)) (hw _ (List.mem_of_getElem? (i := 72) rfl)) (notFace_of_selects (args := #[]) (mvT hZ (hw _ (List.mem_of_getElem? (i := 74) rfl)))) (hw _ (List.mem_of_getElem? (i := 74) rfl)) (hw _ (List.mem_of_getElem? (i := 73) rfl)) (hw _ (List.mem_of_getElem? (i := 5) rfl)) (hw _ (List.mem_of_getElem? (i := 75) rfl)) (by decide) (rmT l Z a0 hw [] TR.heap b4 b2 0 cap2 h0.size vs2 Fb2 Fs2 BB2 (by omega) c21 c22 Z2) eSb E2 (by rw [hml]; rfl) [] [] rfl pd14 rfl rfl 0 rfl (hb hby at_103) (by decide) (by decide) (by decide) (by decide) fun TA LA vA qA XA => ?_
      obtain ⟨r3, vs3, rfl, NA, KA, B3, -⟩ := qA
      have E3 := E2.keep KA
      have Fb3 := Fb2.keep KA nin0
      have Fs3 := Fs2.keep KA nin0
      have BB3 := BB2.keep KA nin0
      show Go _ _ _ _ (TA.setTop (mkF m 106 #[.val (.int x0), .val (.int x1), .val (.int x2), .val (.ref bg), .val (.int (Int32.ofNat n)), .val (.ref b4), .val (.int (1 : Int32)), .val (.int (1 : Int32)), .unset, .unset, .unset] [(.ref r3)]))
      refine Go.step (fun _ k => XS.astore XA.here hx rfl (hb hby at_106) rfl rfl (l' := #[.val (.int x0), .val (.int x1), .val (.int x2), .val (.ref bg), .val (.int (Int32.ofNat n)), .val (.ref b4), .val (.int (1 : Int32)), .val (.int (1 : Int32)), .val (.ref r3), .unset, .unset]) rfl k) ?_
      show Go _ _ _ _ (TA.setTop (mkF m 108 #[.val (.int x0), .val (.int x1), .val (.int x2), .val (.ref bg), .val (.int (Int32.ofNat n)), .val (.ref b4), .val (.int (1 : Int32)), .val (.int (1 : Int32)), .val (.ref r3), .unset, .unset] []))
      refine Go.step (fun _ k => XS.aload XA.here hx rfl (hb hby at_108) rfl rfl k) ?_
      show Go _ _ _ _ (TA.setTop (mkF m 110 #[.val (.int x0), .val (.int x1), .val (.int x2), .val (.ref bg), .val (.int (Int32.ofNat n)), .val (.ref b4), .val (.int (1 : Int32)), .val (.int (1 : Int32)), .val (.ref r3), .unset, .unset] [(.ref r3)]))
      obtain ⟨⟨k5, cl5, Ar5, q5, S5, N5, H5, G5⟩, l5⟩ := id B3
      refine Go.step (fun tg k => XA.arraylength hx (by exact Ar5.1) (State.isArrayOf_alike hZ.alike Ar5.2.1) (g := (mkF m 110 #[.val (.int x0), .val (.int x1), .val (.int x2), .val (.ref bg), .val (.int (Int32.ofNat n)), .val (.ref b4), .val (.int (1 : Int32)), .val (.int (1 : Int32)), .val (.ref r3), .unset, .unset] [(.ref r3)])) rfl rfl (hb hby at_110) tg k) ?_
      rw [len_of S5 N5]
      show Go _ _ _ _ (TA.setTop (mkF m 111 #[.val (.int x0), .val (.int x1), .val (.int x2), .val (.ref bg), .val (.int (Int32.ofNat n)), .val (.ref b4), .val (.int (1 : Int32)), .val (.int (1 : Int32)), .val (.ref r3), .unset, .unset] [(.int (Int32.ofNat 0))]))
      refine Go.step (fun _ k => XS.ifNo XA.here hx rfl (hb hby at_111) rfl ((if0 _ _).trans (teq rfl).2) k) ?_
      show Go _ _ _ _ (TA.setTop (mkF m 114 #[.val (.int x0), .val (.int x1), .val (.int x2), .val (.ref bg), .val (.int (Int32.ofNat n)), .val (.ref b4), .val (.int (1 : Int32)), .val (.int (1 : Int32)), .val (.ref r3), .unset, .unset] []))
      refine Go.step (fun _ k => XS.iconst XA.here hx rfl (hb hby at_114) k) ?_
      show Go _ _ _ _ (TA.setTop (mkF m 115 #[.val (.int x0), .val (.int x1), .val (.int x2), .val (.ref bg), .val (.int (Int32.ofNat n)), .val (.ref b4), .val (.int (1 : Int32)), .val (.int (1 : Int32)), .val (.ref r3), .unset, .unset] [(.int (1 : Int32))]))
      refine Go.step (fun _ k => XS.goto XA.here hx rfl (pc0 := 115) (pc' := 119) rfl (hb hby at_115) (by decide) (by decide) k) ?_
      show Go _ _ _ _ (TA.setTop (mkF m 119 #[.val (.int x0), .val (.int x1), .val (.int x2), .val (.ref bg), .val (.int (Int32.ofNat n)), .val (.ref b4), .val (.int (1 : Int32)), .val (.int (1 : Int32)), .val (.ref r3), .unset, .unset] [(.int (1 : Int32))]))
      refine Go.step (fun _ k => XS.istore XA.here hx rfl (hb hby at_119) rfl (l' := #[.val (.int x0), .val (.int x1), .val (.int x2), .val (.ref bg), .val (.int (Int32.ofNat n)), .val (.ref b4), .val (.int (1 : Int32)), .val (.int (1 : Int32)), .val (.ref r3), .val (.int (1 : Int32)), .unset]) rfl k) ?_
      show Go _ _ _ _ (TA.setTop (mkF m 121 #[.val (.int x0), .val (.int x1), .val (.int x2), .val (.ref bg), .val (.int (Int32.ofNat n)), .val (.ref b4), .val (.int (1 : Int32)), .val (.int (1 : Int32)), .val (.ref r3), .val (.int (1 : Int32)), .unset] []))
      refine Go.step (fun _ k => XS.aload XA.here hx rfl (hb hby at_121) rfl rfl k) ?_
      show Go _ _ _ _ (TA.setTop (mkF m 123 #[.val (.int x0), .val (.int x1), .val (.int x2), .val (.ref bg), .val (.int (Int32.ofNat n)), .val (.ref b4), .val (.int (1 : Int32)), .val (.int (1 : Int32)), .val (.ref r3), .val (.int (1 : Int32)), .unset] [(.ref b4)]))
      refine Go.step (fun _ k => XS.iloadN XA.here hx rfl (hb hby at_123) rfl k) ?_
      show Go _ _ _ _ (TA.setTop (mkF m 124 #[.val (.int x0), .val (.int x1), .val (.int x2), .val (.ref bg), .val (.int (Int32.ofNat n)), .val (.ref b4), .val (.int (1 : Int32)), .val (.int (1 : Int32)), .val (.ref r3), .val (.int (1 : Int32)), .unset] [(.int x2), (.ref b4)]))
      refine goV XA hx hZ hown (hw _ (List.mem_of_getElem? (i := 76) rfl)) (hw _ (List.mem_of_getElem? (i := 77) rfl)) (notFace_of_selects (args := #[]) (mvT hZ (hw _ (List.mem_of_getElem? (i := 79) rfl)))) (hw _ (List.mem_of_getElem? (i := 79) rfl)) (hw _ (List.mem_of_getElem? (i := 78) rfl)) (hw _ (List.mem_of_getElem? (i := 5) rfl)) (hw _ (List.mem_of_getElem? (i := 80) rfl)) (by decide) (rmW l Z a0 hw [] TA.heap b4 b2 x2 cap2 h0.size vs2 E3 Fb3 Fs3 BB3 c21 c22 gb2 go nob2) rfl E3 (by rw [hml]; rfl) [(.int x2)] [] rfl pd15 rfl rfl 0 rfl (hb hby at_124) (by decide) (by decide) (by decide) (by decide) fun TI LI vI qI XI => ?_
      obtain ⟨rfl, NI, vs5, E5, Fb5, Fs5, BB5, g50, g51, g52, g53⟩ := qI
      have Z5 : h0.size ≤ TI.heap.size := Nat.le_trans gb2 (Nat.le_of_lt BB5.lt)
      show Go _ _ _ _ (TI.setTop (mkF m 127 #[.val (.int x0), .val (.int x1), .val (.int x2), .val (.ref bg), .val (.int (Int32.ofNat n)), .val (.ref b4), .val (.int (1 : Int32)), .val (.int (1 : Int32)), .val (.ref r3), .val (.int (1 : Int32)), .unset] []))
      refine Go.step (fun _ k => XS.aload XI.here hx rfl (hb hby at_127) rfl rfl k) ?_
      show Go _ _ _ _ (TI.setTop (mkF m 129 #[.val (.int x0), .val (.int x1), .val (.int x2), .val (.ref bg), .val (.int (Int32.ofNat n)), .val (.ref b4), .val (.int (1 : Int32)), .val (.int (1 : Int32)), .val (.ref r3), .val (.int (1 : Int32)), .unset] [(.ref b4)]))
      refine goV XI hx hZ hown (hw _ (List.mem_of_getElem? (i := 71) rfl)) (hw _ (List.mem_of_getElem? (i := 72) rfl)) (notFace_of_selects (args := #[]) (mvT hZ (hw _ (List.mem_of_getElem? (i := 74) rfl)))) (hw _ (List.mem_of_getElem? (i := 74) rfl)) (hw _ (List.mem_of_getElem? (i := 73) rfl)) (hw _ (List.mem_of_getElem? (i := 5) rfl)) (hw _ (List.mem_of_getElem? (i := 75) rfl)) (by decide) (rmT l Z a0 hw [] TI.heap b4 b2 4 cap2 h0.size vs5 Fb5 Fs5 BB5 (by omega) c21 c22 Z5) rfl E5 (by rw [hml]; rfl) [] [] rfl pd14 rfl rfl 0 rfl (hb hby at_129) (by decide) (by decide) (by decide) (by decide) fun TB LB vB qB XB => ?_
      obtain ⟨r6, vs6, rfl, NB, KB, B6, h6⟩ := qB
      have E6 := E5.keep KB
      have Fs6 := Fs5.keep KB nin0
      obtain ⟨⟨kzz, clzz, Arzz, qzz, Szz, Nzz, Hzz, Gzz⟩, lzz⟩ := id B6
      have szz : clzz.slots.size = 4 := Szz
      show Go _ _ _ _ (TB.setTop (mkF m 132 #[.val (.int x0), .val (.int x1), .val (.int x2), .val (.ref bg), .val (.int (Int32.ofNat n)), .val (.ref b4), .val (.int (1 : Int32)), .val (.int (1 : Int32)), .val (.ref r3), .val (.int (1 : Int32)), .unset] [(.ref r6)]))
      refine Go.step (fun _ k => XS.astore XB.here hx rfl (hb hby at_132) rfl rfl (l' := #[.val (.int x0), .val (.int x1), .val (.int x2), .val (.ref bg), .val (.int (Int32.ofNat n)), .val (.ref b4), .val (.int (1 : Int32)), .val (.int (1 : Int32)), .val (.ref r3), .val (.int (1 : Int32)), .val (.ref r6)]) rfl k) ?_
      show Go _ _ _ _ (TB.setTop (mkF m 134 #[.val (.int x0), .val (.int x1), .val (.int x2), .val (.ref bg), .val (.int (Int32.ofNat n)), .val (.ref b4), .val (.int (1 : Int32)), .val (.int (1 : Int32)), .val (.ref r3), .val (.int (1 : Int32)), .val (.ref r6)] []))
      refine Go.step (fun _ k => XS.iload XB.here hx rfl (hb hby at_134) rfl k) ?_
      show Go _ _ _ _ (TB.setTop (mkF m 136 #[.val (.int x0), .val (.int x1), .val (.int x2), .val (.ref bg), .val (.int (Int32.ofNat n)), .val (.ref b4), .val (.int (1 : Int32)), .val (.int (1 : Int32)), .val (.ref r3), .val (.int (1 : Int32)), .val (.ref r6)] [(.int (1 : Int32))]))
      refine Go.step (fun _ k => XS.ifNo XB.here hx rfl (hb hby at_136) rfl ((if0 _ _).trans (feq (by decide : ¬ ((1 : Int32) = (0 : Int32)))).1) k) ?_
      show Go _ _ _ _ (TB.setTop (mkF m 139 #[.val (.int x0), .val (.int x1), .val (.int x2), .val (.ref bg), .val (.int (Int32.ofNat n)), .val (.ref b4), .val (.int (1 : Int32)), .val (.int (1 : Int32)), .val (.ref r3), .val (.int (1 : Int32)), .val (.ref r6)] []))
      refine Go.step (fun _ k => XS.iload XB.here hx rfl (hb hby at_139) rfl k) ?_
      show Go _ _ _ _ (TB.setTop (mkF m 141 #[.val (.int x0), .val (.int x1), .val (.int x2), .val (.ref bg), .val (.int (Int32.ofNat n)), .val (.ref b4), .val (.int (1 : Int32)), .val (.int (1 : Int32)), .val (.ref r3), .val (.int (1 : Int32)), .val (.ref r6)] [(.int (1 : Int32))]))
      refine Go.step (fun _ k => XS.ifNo XB.here hx rfl (hb hby at_141) rfl ((if0 _ _).trans (feq (by decide : ¬ ((1 : Int32) = (0 : Int32)))).1) k) ?_
      show Go _ _ _ _ (TB.setTop (mkF m 144 #[.val (.int x0), .val (.int x1), .val (.int x2), .val (.ref bg), .val (.int (Int32.ofNat n)), .val (.ref b4), .val (.int (1 : Int32)), .val (.int (1 : Int32)), .val (.ref r3), .val (.int (1 : Int32)), .val (.ref r6)] []))
      refine Go.step (fun _ k => XS.iload XB.here hx rfl (hb hby at_144) rfl k) ?_
      show Go _ _ _ _ (TB.setTop (mkF m 146 #[.val (.int x0), .val (.int x1), .val (.int x2), .val (.ref bg), .val (.int (Int32.ofNat n)), .val (.ref b4), .val (.int (1 : Int32)), .val (.int (1 : Int32)), .val (.ref r3), .val (.int (1 : Int32)), .val (.ref r6)] [(.int (1 : Int32))]))
      refine Go.step (fun _ k => XS.ifNo XB.here hx rfl (hb hby at_146) rfl ((if0 _ _).trans (feq (by decide : ¬ ((1 : Int32) = (0 : Int32)))).1) k) ?_
      show Go _ _ _ _ (TB.setTop (mkF m 149 #[.val (.int x0), .val (.int x1), .val (.int x2), .val (.ref bg), .val (.int (Int32.ofNat n)), .val (.ref b4), .val (.int (1 : Int32)), .val (.int (1 : Int32)), .val (.ref r3), .val (.int (1 : Int32)), .val (.ref r6)] []))
      refine Go.step (fun _ k => XS.aload XB.here hx rfl (hb hby at_149) rfl rfl k) ?_
      show Go _ _ _ _ (TB.setTop (mkF m 151 #[.val (.int x0), .val (.int x1), .val (.int x2), .val (.ref bg), .val (.int (Int32.ofNat n)), .val (.ref b4), .val (.int (1 : Int32)), .val (.int (1 : Int32)), .val (.ref r3), .val (.int (1 : Int32)), .val (.ref r6)] [(.ref b4)]))
      refine goV XB hx hZ hown (hw _ (List.mem_of_getElem? (i := 60) rfl)) (hw _ (List.mem_of_getElem? (i := 61) rfl)) (notFace_of_selects (args := #[]) (mvT hZ (hw _ (List.mem_of_getElem? (i := 63) rfl)))) (hw _ (List.mem_of_getElem? (i := 63) rfl)) (hw _ (List.mem_of_getElem? (i := 62) rfl)) (hw _ (List.mem_of_getElem? (i := 5) rfl)) (hw _ (List.mem_of_getElem? (i := 64) rfl)) (by decide) (rmS l Z a0 hw [] TB.heap b4 4 Fs6) rfl E6 (by rw [hml]; rfl) [] [] rfl pd12 rfl rfl 0 rfl (hb hby at_151) (by decide) (by decide) (by decide) (by decide) fun TSc LSc vSc qSc XSc => ?_
      obtain ⟨rfl, eSc, rfl⟩ := qSc
      rw [List.append_nil] at XSc
      show Go _ _ _ _ (TSc.setTop (mkF m 154 #[.val (.int x0), .val (.int x1), .val (.int x2), .val (.ref bg), .val (.int (Int32.ofNat n)), .val (.ref b4), .val (.int (1 : Int32)), .val (.int (1 : Int32)), .val (.ref r3), .val (.int (1 : Int32)), .val (.ref r6)] [(.int (Int32.ofNat 4))]))
      refine Go.step (fun _ k => XS.iconst XSc.here hx rfl (hb hby at_154) k) ?_
      show Go _ _ _ _ (TSc.setTop (mkF m 155 #[.val (.int x0), .val (.int x1), .val (.int x2), .val (.ref bg), .val (.int (Int32.ofNat n)), .val (.ref b4), .val (.int (1 : Int32)), .val (.int (1 : Int32)), .val (.ref r3), .val (.int (1 : Int32)), .val (.ref r6)] [(.int (4 : Int32)), (.int (Int32.ofNat 4))]))
      refine Go.step (fun _ k => XS.icmpNo XSc.here hx rfl (hb hby at_155) rfl (teq rfl).2 k) ?_
      show Go _ _ _ _ (TSc.setTop (mkF m 158 #[.val (.int x0), .val (.int x1), .val (.int x2), .val (.ref bg), .val (.int (Int32.ofNat n)), .val (.ref b4), .val (.int (1 : Int32)), .val (.int (1 : Int32)), .val (.ref r3), .val (.int (1 : Int32)), .val (.ref r6)] []))
      refine Go.step (fun _ k => XS.aload XSc.here hx rfl (hb hby at_158) rfl rfl k) ?_
      show Go _ _ _ _ (TSc.setTop (mkF m 160 #[.val (.int x0), .val (.int x1), .val (.int x2), .val (.ref bg), .val (.int (Int32.ofNat n)), .val (.ref b4), .val (.int (1 : Int32)), .val (.int (1 : Int32)), .val (.ref r3), .val (.int (1 : Int32)), .val (.ref r6)] [(.ref r6)]))
      obtain ⟨⟨k6, cl6, Ar6, q6, S6, N6, H6, G6⟩, l6⟩ := id B6
      refine Go.step (fun tg k => XSc.arraylength hx (by rw [eSc]; exact Ar6.1) (State.isArrayOf_alike hZ.alike Ar6.2.1) (g := (mkF m 160 #[.val (.int x0), .val (.int x1), .val (.int x2), .val (.ref bg), .val (.int (Int32.ofNat n)), .val (.ref b4), .val (.int (1 : Int32)), .val (.int (1 : Int32)), .val (.ref r3), .val (.int (1 : Int32)), .val (.ref r6)] [(.ref r6)])) rfl rfl (hb hby at_160) tg k) ?_
      rw [len_of S6 N6]
      show Go _ _ _ _ (TSc.setTop (mkF m 161 #[.val (.int x0), .val (.int x1), .val (.int x2), .val (.ref bg), .val (.int (Int32.ofNat n)), .val (.ref b4), .val (.int (1 : Int32)), .val (.int (1 : Int32)), .val (.ref r3), .val (.int (1 : Int32)), .val (.ref r6)] [(.int (Int32.ofNat 4))]))
      refine Go.step (fun _ k => XS.iconst XSc.here hx rfl (hb hby at_161) k) ?_
      show Go _ _ _ _ (TSc.setTop (mkF m 162 #[.val (.int x0), .val (.int x1), .val (.int x2), .val (.ref bg), .val (.int (Int32.ofNat n)), .val (.ref b4), .val (.int (1 : Int32)), .val (.int (1 : Int32)), .val (.ref r3), .val (.int (1 : Int32)), .val (.ref r6)] [(.int (4 : Int32)), (.int (Int32.ofNat 4))]))
      refine Go.step (fun _ k => XS.icmpNo XSc.here hx rfl (hb hby at_162) rfl (teq rfl).2 k) ?_
      show Go _ _ _ _ (TSc.setTop (mkF m 165 #[.val (.int x0), .val (.int x1), .val (.int x2), .val (.ref bg), .val (.int (Int32.ofNat n)), .val (.ref b4), .val (.int (1 : Int32)), .val (.int (1 : Int32)), .val (.ref r3), .val (.int (1 : Int32)), .val (.ref r6)] []))
      refine Go.step (fun _ k => XS.aload XSc.here hx rfl (hb hby at_165) rfl rfl k) ?_
      show Go _ _ _ _ (TSc.setTop (mkF m 167 #[.val (.int x0), .val (.int x1), .val (.int x2), .val (.ref bg), .val (.int (Int32.ofNat n)), .val (.ref b4), .val (.int (1 : Int32)), .val (.int (1 : Int32)), .val (.ref r3), .val (.int (1 : Int32)), .val (.ref r6)] [(.ref r6)]))
      refine Go.step (fun _ k => XS.iconst XSc.here hx rfl (hb hby at_167) k) ?_
      show Go _ _ _ _ (TSc.setTop (mkF m 168 #[.val (.int x0), .val (.int x1), .val (.int x2), .val (.ref bg), .val (.int (Int32.ofNat n)), .val (.ref b4), .val (.int (1 : Int32)), .val (.int (1 : Int32)), .val (.ref r3), .val (.int (1 : Int32)), .val (.ref r6)] [(.int (0 : Int32)), (.ref r6)]))
      refine Go.step (fun tg k => XSc.baloadBytes hx (j := (0 : Int32)) (v := .int (((x2.toUInt32 >>> ((24 : Int32) &&& 31).toUInt32).toInt32).toInt8.toInt32)) (by rw [eSc]; exact Arzz.1) (State.isArrayOf_alike hZ.alike Arzz.2.1) Arzz.2.2 (own_in (i := 0) (by rw [szz]; decide) (by decide)) (Hzz.at (own_in (i := 0) (by rw [szz]; decide) (by decide)) ((h6 0 (by omega)).trans g50)) (g := (mkF m 168 #[.val (.int x0), .val (.int x1), .val (.int x2), .val (.ref bg), .val (.int (Int32.ofNat n)), .val (.ref b4), .val (.int (1 : Int32)), .val (.int (1 : Int32)), .val (.ref r3), .val (.int (1 : Int32)), .val (.ref r6)] [(.int (0 : Int32)), (.ref r6)])) rfl rfl (hb hby at_168) tg k) ?_
      show Go _ _ _ _ (TSc.setTop (mkF m 169 #[.val (.int x0), .val (.int x1), .val (.int x2), .val (.ref bg), .val (.int (Int32.ofNat n)), .val (.ref b4), .val (.int (1 : Int32)), .val (.int (1 : Int32)), .val (.ref r3), .val (.int (1 : Int32)), .val (.ref r6)] [(.int (((x2.toUInt32 >>> ((24 : Int32) &&& 31).toUInt32).toInt32).toInt8.toInt32))]))
      refine Go.step (fun _ k => XS.iloadN XSc.here hx rfl (hb hby at_169) rfl k) ?_
      show Go _ _ _ _ (TSc.setTop (mkF m 170 #[.val (.int x0), .val (.int x1), .val (.int x2), .val (.ref bg), .val (.int (Int32.ofNat n)), .val (.ref b4), .val (.int (1 : Int32)), .val (.int (1 : Int32)), .val (.ref r3), .val (.int (1 : Int32)), .val (.ref r6)] [(.int x2), (.int (((x2.toUInt32 >>> ((24 : Int32) &&& 31).toUInt32).toInt32).toInt8.toInt32))]))
      refine Go.step (fun _ k => XS.bipush XSc.here hx rfl (hb hby at_170) k) ?_
      show Go _ _ _ _ (TSc.setTop (mkF m 172 #[.val (.int x0), .val (.int x1), .val (.int x2), .val (.ref bg), .val (.int (Int32.ofNat n)), .val (.ref b4), .val (.int (1 : Int32)), .val (.int (1 : Int32)), .val (.ref r3), .val (.int (1 : Int32)), .val (.ref r6)] [(.int (24 : Int32)), (.int x2), (.int (((x2.toUInt32 >>> ((24 : Int32) &&& 31).toUInt32).toInt32).toInt8.toInt32))]))
      refine Go.step (fun _ k => XS.iushr XSc.here hx rfl (hb hby at_172) rfl k) ?_
      show Go _ _ _ _ (TSc.setTop (mkF m 173 #[.val (.int x0), .val (.int x1), .val (.int x2), .val (.ref bg), .val (.int (Int32.ofNat n)), .val (.ref b4), .val (.int (1 : Int32)), .val (.int (1 : Int32)), .val (.ref r3), .val (.int (1 : Int32)), .val (.ref r6)] [(.int ((x2.toUInt32 >>> ((24 : Int32) &&& 31).toUInt32).toInt32)), (.int (((x2.toUInt32 >>> ((24 : Int32) &&& 31).toUInt32).toInt32).toInt8.toInt32))]))
      refine Go.step (fun _ k => XS.i2b XSc.here hx rfl (hb hby at_173) rfl k) ?_
      show Go _ _ _ _ (TSc.setTop (mkF m 174 #[.val (.int x0), .val (.int x1), .val (.int x2), .val (.ref bg), .val (.int (Int32.ofNat n)), .val (.ref b4), .val (.int (1 : Int32)), .val (.int (1 : Int32)), .val (.ref r3), .val (.int (1 : Int32)), .val (.ref r6)] [(.int (((x2.toUInt32 >>> ((24 : Int32) &&& 31).toUInt32).toInt32).toInt8.toInt32)), (.int (((x2.toUInt32 >>> ((24 : Int32) &&& 31).toUInt32).toInt32).toInt8.toInt32))]))
      refine Go.step (fun _ k => XS.icmpNo XSc.here hx rfl (hb hby at_174) rfl (teq rfl).2 k) ?_
      show Go _ _ _ _ (TSc.setTop (mkF m 177 #[.val (.int x0), .val (.int x1), .val (.int x2), .val (.ref bg), .val (.int (Int32.ofNat n)), .val (.ref b4), .val (.int (1 : Int32)), .val (.int (1 : Int32)), .val (.ref r3), .val (.int (1 : Int32)), .val (.ref r6)] []))
      refine Go.step (fun _ k => XS.aload XSc.here hx rfl (hb hby at_177) rfl rfl k) ?_
      show Go _ _ _ _ (TSc.setTop (mkF m 179 #[.val (.int x0), .val (.int x1), .val (.int x2), .val (.ref bg), .val (.int (Int32.ofNat n)), .val (.ref b4), .val (.int (1 : Int32)), .val (.int (1 : Int32)), .val (.ref r3), .val (.int (1 : Int32)), .val (.ref r6)] [(.ref r6)]))
      refine Go.step (fun _ k => XS.iconst XSc.here hx rfl (hb hby at_179) k) ?_
      show Go _ _ _ _ (TSc.setTop (mkF m 180 #[.val (.int x0), .val (.int x1), .val (.int x2), .val (.ref bg), .val (.int (Int32.ofNat n)), .val (.ref b4), .val (.int (1 : Int32)), .val (.int (1 : Int32)), .val (.ref r3), .val (.int (1 : Int32)), .val (.ref r6)] [(.int (1 : Int32)), (.ref r6)]))
      refine Go.step (fun tg k => XSc.baloadBytes hx (j := (1 : Int32)) (v := .int (((x2.toUInt32 >>> ((16 : Int32) &&& 31).toUInt32).toInt32).toInt8.toInt32)) (by rw [eSc]; exact Arzz.1) (State.isArrayOf_alike hZ.alike Arzz.2.1) Arzz.2.2 (own_in (i := 1) (by rw [szz]; decide) (by decide)) (Hzz.at (own_in (i := 1) (by rw [szz]; decide) (by decide)) ((h6 1 (by omega)).trans g51)) (g := (mkF m 180 #[.val (.int x0), .val (.int x1), .val (.int x2), .val (.ref bg), .val (.int (Int32.ofNat n)), .val (.ref b4), .val (.int (1 : Int32)), .val (.int (1 : Int32)), .val (.ref r3), .val (.int (1 : Int32)), .val (.ref r6)] [(.int (1 : Int32)), (.ref r6)])) rfl rfl (hb hby at_180) tg k) ?_
      show Go _ _ _ _ (TSc.setTop (mkF m 181 #[.val (.int x0), .val (.int x1), .val (.int x2), .val (.ref bg), .val (.int (Int32.ofNat n)), .val (.ref b4), .val (.int (1 : Int32)), .val (.int (1 : Int32)), .val (.ref r3), .val (.int (1 : Int32)), .val (.ref r6)] [(.int (((x2.toUInt32 >>> ((16 : Int32) &&& 31).toUInt32).toInt32).toInt8.toInt32))]))
      refine Go.step (fun _ k => XS.iloadN XSc.here hx rfl (hb hby at_181) rfl k) ?_
      show Go _ _ _ _ (TSc.setTop (mkF m 182 #[.val (.int x0), .val (.int x1), .val (.int x2), .val (.ref bg), .val (.int (Int32.ofNat n)), .val (.ref b4), .val (.int (1 : Int32)), .val (.int (1 : Int32)), .val (.ref r3), .val (.int (1 : Int32)), .val (.ref r6)] [(.int x2), (.int (((x2.toUInt32 >>> ((16 : Int32) &&& 31).toUInt32).toInt32).toInt8.toInt32))]))
      refine Go.step (fun _ k => XS.bipush XSc.here hx rfl (hb hby at_182) k) ?_
      show Go _ _ _ _ (TSc.setTop (mkF m 184 #[.val (.int x0), .val (.int x1), .val (.int x2), .val (.ref bg), .val (.int (Int32.ofNat n)), .val (.ref b4), .val (.int (1 : Int32)), .val (.int (1 : Int32)), .val (.ref r3), .val (.int (1 : Int32)), .val (.ref r6)] [(.int (16 : Int32)), (.int x2), (.int (((x2.toUInt32 >>> ((16 : Int32) &&& 31).toUInt32).toInt32).toInt8.toInt32))]))
      refine Go.step (fun _ k => XS.iushr XSc.here hx rfl (hb hby at_184) rfl k) ?_
      show Go _ _ _ _ (TSc.setTop (mkF m 185 #[.val (.int x0), .val (.int x1), .val (.int x2), .val (.ref bg), .val (.int (Int32.ofNat n)), .val (.ref b4), .val (.int (1 : Int32)), .val (.int (1 : Int32)), .val (.ref r3), .val (.int (1 : Int32)), .val (.ref r6)] [(.int ((x2.toUInt32 >>> ((16 : Int32) &&& 31).toUInt32).toInt32)), (.int (((x2.toUInt32 >>> ((16 : Int32) &&& 31).toUInt32).toInt32).toInt8.toInt32))]))
      refine Go.step (fun _ k => XS.i2b XSc.here hx rfl (hb hby at_185) rfl k) ?_
      show Go _ _ _ _ (TSc.setTop (mkF m 186 #[.val (.int x0), .val (.int x1), .val (.int x2), .val (.ref bg), .val (.int (Int32.ofNat n)), .val (.ref b4), .val (.int (1 : Int32)), .val (.int (1 : Int32)), .val (.ref r3), .val (.int (1 : Int32)), .val (.ref r6)] [(.int (((x2.toUInt32 >>> ((16 : Int32) &&& 31).toUInt32).toInt32).toInt8.toInt32)), (.int (((x2.toUInt32 >>> ((16 : Int32) &&& 31).toUInt32).toInt32).toInt8.toInt32))]))
      refine Go.step (fun _ k => XS.icmpNo XSc.here hx rfl (hb hby at_186) rfl (teq rfl).2 k) ?_
      show Go _ _ _ _ (TSc.setTop (mkF m 189 #[.val (.int x0), .val (.int x1), .val (.int x2), .val (.ref bg), .val (.int (Int32.ofNat n)), .val (.ref b4), .val (.int (1 : Int32)), .val (.int (1 : Int32)), .val (.ref r3), .val (.int (1 : Int32)), .val (.ref r6)] []))
      refine Go.step (fun _ k => XS.aload XSc.here hx rfl (hb hby at_189) rfl rfl k) ?_
      show Go _ _ _ _ (TSc.setTop (mkF m 191 #[.val (.int x0), .val (.int x1), .val (.int x2), .val (.ref bg), .val (.int (Int32.ofNat n)), .val (.ref b4), .val (.int (1 : Int32)), .val (.int (1 : Int32)), .val (.ref r3), .val (.int (1 : Int32)), .val (.ref r6)] [(.ref r6)]))
      refine Go.step (fun _ k => XS.iconst XSc.here hx rfl (hb hby at_191) k) ?_
      show Go _ _ _ _ (TSc.setTop (mkF m 192 #[.val (.int x0), .val (.int x1), .val (.int x2), .val (.ref bg), .val (.int (Int32.ofNat n)), .val (.ref b4), .val (.int (1 : Int32)), .val (.int (1 : Int32)), .val (.ref r3), .val (.int (1 : Int32)), .val (.ref r6)] [(.int (2 : Int32)), (.ref r6)]))
      refine Go.step (fun tg k => XSc.baloadBytes hx (j := (2 : Int32)) (v := .int (((x2.toUInt32 >>> ((8 : Int32) &&& 31).toUInt32).toInt32).toInt8.toInt32)) (by rw [eSc]; exact Arzz.1) (State.isArrayOf_alike hZ.alike Arzz.2.1) Arzz.2.2 (own_in (i := 2) (by rw [szz]; decide) (by decide)) (Hzz.at (own_in (i := 2) (by rw [szz]; decide) (by decide)) ((h6 2 (by omega)).trans g52)) (g := (mkF m 192 #[.val (.int x0), .val (.int x1), .val (.int x2), .val (.ref bg), .val (.int (Int32.ofNat n)), .val (.ref b4), .val (.int (1 : Int32)), .val (.int (1 : Int32)), .val (.ref r3), .val (.int (1 : Int32)), .val (.ref r6)] [(.int (2 : Int32)), (.ref r6)])) rfl rfl (hb hby at_192) tg k) ?_
      show Go _ _ _ _ (TSc.setTop (mkF m 193 #[.val (.int x0), .val (.int x1), .val (.int x2), .val (.ref bg), .val (.int (Int32.ofNat n)), .val (.ref b4), .val (.int (1 : Int32)), .val (.int (1 : Int32)), .val (.ref r3), .val (.int (1 : Int32)), .val (.ref r6)] [(.int (((x2.toUInt32 >>> ((8 : Int32) &&& 31).toUInt32).toInt32).toInt8.toInt32))]))
      refine Go.step (fun _ k => XS.iloadN XSc.here hx rfl (hb hby at_193) rfl k) ?_
      show Go _ _ _ _ (TSc.setTop (mkF m 194 #[.val (.int x0), .val (.int x1), .val (.int x2), .val (.ref bg), .val (.int (Int32.ofNat n)), .val (.ref b4), .val (.int (1 : Int32)), .val (.int (1 : Int32)), .val (.ref r3), .val (.int (1 : Int32)), .val (.ref r6)] [(.int x2), (.int (((x2.toUInt32 >>> ((8 : Int32) &&& 31).toUInt32).toInt32).toInt8.toInt32))]))
      refine Go.step (fun _ k => XS.bipush XSc.here hx rfl (hb hby at_194) k) ?_
      show Go _ _ _ _ (TSc.setTop (mkF m 196 #[.val (.int x0), .val (.int x1), .val (.int x2), .val (.ref bg), .val (.int (Int32.ofNat n)), .val (.ref b4), .val (.int (1 : Int32)), .val (.int (1 : Int32)), .val (.ref r3), .val (.int (1 : Int32)), .val (.ref r6)] [(.int (8 : Int32)), (.int x2), (.int (((x2.toUInt32 >>> ((8 : Int32) &&& 31).toUInt32).toInt32).toInt8.toInt32))]))
      refine Go.step (fun _ k => XS.iushr XSc.here hx rfl (hb hby at_196) rfl k) ?_
      show Go _ _ _ _ (TSc.setTop (mkF m 197 #[.val (.int x0), .val (.int x1), .val (.int x2), .val (.ref bg), .val (.int (Int32.ofNat n)), .val (.ref b4), .val (.int (1 : Int32)), .val (.int (1 : Int32)), .val (.ref r3), .val (.int (1 : Int32)), .val (.ref r6)] [(.int ((x2.toUInt32 >>> ((8 : Int32) &&& 31).toUInt32).toInt32)), (.int (((x2.toUInt32 >>> ((8 : Int32) &&& 31).toUInt32).toInt32).toInt8.toInt32))]))
      refine Go.step (fun _ k => XS.i2b XSc.here hx rfl (hb hby at_197) rfl k) ?_
      show Go _ _ _ _ (TSc.setTop (mkF m 198 #[.val (.int x0), .val (.int x1), .val (.int x2), .val (.ref bg), .val (.int (Int32.ofNat n)), .val (.ref b4), .val (.int (1 : Int32)), .val (.int (1 : Int32)), .val (.ref r3), .val (.int (1 : Int32)), .val (.ref r6)] [(.int (((x2.toUInt32 >>> ((8 : Int32) &&& 31).toUInt32).toInt32).toInt8.toInt32)), (.int (((x2.toUInt32 >>> ((8 : Int32) &&& 31).toUInt32).toInt32).toInt8.toInt32))]))
      refine Go.step (fun _ k => XS.icmpNo XSc.here hx rfl (hb hby at_198) rfl (teq rfl).2 k) ?_
      show Go _ _ _ _ (TSc.setTop (mkF m 201 #[.val (.int x0), .val (.int x1), .val (.int x2), .val (.ref bg), .val (.int (Int32.ofNat n)), .val (.ref b4), .val (.int (1 : Int32)), .val (.int (1 : Int32)), .val (.ref r3), .val (.int (1 : Int32)), .val (.ref r6)] []))
      refine Go.step (fun _ k => XS.aload XSc.here hx rfl (hb hby at_201) rfl rfl k) ?_
      show Go _ _ _ _ (TSc.setTop (mkF m 203 #[.val (.int x0), .val (.int x1), .val (.int x2), .val (.ref bg), .val (.int (Int32.ofNat n)), .val (.ref b4), .val (.int (1 : Int32)), .val (.int (1 : Int32)), .val (.ref r3), .val (.int (1 : Int32)), .val (.ref r6)] [(.ref r6)]))
      refine Go.step (fun _ k => XS.iconst XSc.here hx rfl (hb hby at_203) k) ?_
      show Go _ _ _ _ (TSc.setTop (mkF m 204 #[.val (.int x0), .val (.int x1), .val (.int x2), .val (.ref bg), .val (.int (Int32.ofNat n)), .val (.ref b4), .val (.int (1 : Int32)), .val (.int (1 : Int32)), .val (.ref r3), .val (.int (1 : Int32)), .val (.ref r6)] [(.int (3 : Int32)), (.ref r6)]))
      refine Go.step (fun tg k => XSc.baloadBytes hx (j := (3 : Int32)) (v := .int (x2.toInt8.toInt32)) (by rw [eSc]; exact Arzz.1) (State.isArrayOf_alike hZ.alike Arzz.2.1) Arzz.2.2 (own_in (i := 3) (by rw [szz]; decide) (by decide)) (Hzz.at (own_in (i := 3) (by rw [szz]; decide) (by decide)) ((h6 3 (by omega)).trans g53)) (g := (mkF m 204 #[.val (.int x0), .val (.int x1), .val (.int x2), .val (.ref bg), .val (.int (Int32.ofNat n)), .val (.ref b4), .val (.int (1 : Int32)), .val (.int (1 : Int32)), .val (.ref r3), .val (.int (1 : Int32)), .val (.ref r6)] [(.int (3 : Int32)), (.ref r6)])) rfl rfl (hb hby at_204) tg k) ?_
      show Go _ _ _ _ (TSc.setTop (mkF m 205 #[.val (.int x0), .val (.int x1), .val (.int x2), .val (.ref bg), .val (.int (Int32.ofNat n)), .val (.ref b4), .val (.int (1 : Int32)), .val (.int (1 : Int32)), .val (.ref r3), .val (.int (1 : Int32)), .val (.ref r6)] [(.int (x2.toInt8.toInt32))]))
      refine Go.step (fun _ k => XS.iloadN XSc.here hx rfl (hb hby at_205) rfl k) ?_
      show Go _ _ _ _ (TSc.setTop (mkF m 206 #[.val (.int x0), .val (.int x1), .val (.int x2), .val (.ref bg), .val (.int (Int32.ofNat n)), .val (.ref b4), .val (.int (1 : Int32)), .val (.int (1 : Int32)), .val (.ref r3), .val (.int (1 : Int32)), .val (.ref r6)] [(.int x2), (.int (x2.toInt8.toInt32))]))
      refine Go.step (fun _ k => XS.i2b XSc.here hx rfl (hb hby at_206) rfl k) ?_
      show Go _ _ _ _ (TSc.setTop (mkF m 207 #[.val (.int x0), .val (.int x1), .val (.int x2), .val (.ref bg), .val (.int (Int32.ofNat n)), .val (.ref b4), .val (.int (1 : Int32)), .val (.int (1 : Int32)), .val (.ref r3), .val (.int (1 : Int32)), .val (.ref r6)] [(.int (x2.toInt8.toInt32)), (.int (x2.toInt8.toInt32))]))
      refine Go.step (fun _ k => XS.icmpNo XSc.here hx rfl (hb hby at_207) rfl (teq rfl).2 k) ?_
      show Go _ _ _ _ (TSc.setTop (mkF m 210 #[.val (.int x0), .val (.int x1), .val (.int x2), .val (.ref bg), .val (.int (Int32.ofNat n)), .val (.ref b4), .val (.int (1 : Int32)), .val (.int (1 : Int32)), .val (.ref r3), .val (.int (1 : Int32)), .val (.ref r6)] []))
      refine Go.step (fun _ k => XS.iconst XSc.here hx rfl (hb hby at_210) k) ?_
      show Go _ _ _ _ (TSc.setTop (mkF m 211 #[.val (.int x0), .val (.int x1), .val (.int x2), .val (.ref bg), .val (.int (Int32.ofNat n)), .val (.ref b4), .val (.int (1 : Int32)), .val (.int (1 : Int32)), .val (.ref r3), .val (.int (1 : Int32)), .val (.ref r6)] [(.int (1 : Int32))]))
      refine Go.step (fun _ k => XS.goto XSc.here hx rfl (pc0 := 211) (pc' := 215) rfl (hb hby at_211) (by decide) (by decide) k) ?_
      show Go _ _ _ _ (TSc.setTop (mkF m 215 #[.val (.int x0), .val (.int x1), .val (.int x2), .val (.ref bg), .val (.int (Int32.ofNat n)), .val (.ref b4), .val (.int (1 : Int32)), .val (.int (1 : Int32)), .val (.ref r3), .val (.int (1 : Int32)), .val (.ref r6)] [(.int (1 : Int32))]))
      exact leafN XSc hx (t := .boolean) hret (by simp) hlk (w := (1 : Int32)) rfl (hb hby at_215) ⟨rfl, (Fr.app (Fr.app (Fr.app (Fr.app (Fr.app (Fr.app NG NC) NW) NR) NA) NI) NB)⟩ (by decide) (by decide)
    · refine Go.step (fun _ k => XS.ifYes X1.here hx rfl (pc0 := 33) (pc' := 46) rfl (hb hby at_33) rfl ((if0 _ _).trans (flt hc2).2.2.2) (by decide) (by decide) k) ?_
      show Go _ _ _ _ (T1.setTop (mkF m 46 #[.val (.int x0), .val (.int x1), .val (.int x2), .val (.ref bg), .val (.int (Int32.ofNat n)), .unset, .unset, .unset, .unset, .unset, .unset] []))
      obtain ⟨T7, h7, X7, e7, E7, A7, D7, -, st7⟩ := newO X1 hx hZ hown (hw _ (List.mem_of_getElem? (i := 3) rfl)) (hw _ (List.mem_of_getElem? (i := 4) rfl)) (hw _ (List.mem_of_getElem? (i := 5) rfl)) e1 (g := (mkF m 46 #[.val (.int x0), .val (.int x1), .val (.int x2), .val (.ref bg), .val (.int (Int32.ofNat n)), .unset, .unset, .unset, .unset, .unset, .unset] [])) rfl (hb hby at_46) (by decide) (by decide)
      obtain ⟨b7, g7⟩ : ∃ z, z = h1.size := ⟨_, rfl⟩
      rw [← g7] at A7 D7 st7
      have F7_bytes : Fld Z h7 b7 "com/example/farcall/farcall/MessageBuffer" "bytes" "[B" .null := D7 (Or.inl (hw _ (List.mem_of_getElem? (i := 18) rfl))) (ty := (.array .byte)) (by decide)
      have F7_size : Fld Z h7 b7 "com/example/farcall/farcall/MessageBuffer" "size" "I" (.int (0 : Int32)) := D7 (Or.inl (hw _ (List.mem_of_getElem? (i := 37) rfl))) (ty := .int) (by decide)
      refine Go.step st7 ?_
      have ZB : h0.size ≤ h7.size := Nat.le_trans gg (Nat.le_of_lt (BA.keep ((Keep.refl _ []).ext E7) nin0).lt)
      have go : h0.size ≤ b7 := Nat.le_trans gg (Nat.le_trans (Nat.le_of_lt BA.lt) (Nat.le_of_eq g7.symm))
      have nbo : bg ≠ b7 := Nat.ne_of_lt (Nat.lt_of_lt_of_le BA.lt (Nat.le_of_eq g7.symm))
      have BAo := BA.keep ((Keep.refl _ []).ext E7) nin0
      show Go _ _ _ _ (T7.setTop (mkF m 49 #[.val (.int x0), .val (.int x1), .val (.int x2), .val (.ref bg), .val (.int (Int32.ofNat n)), .unset, .unset, .unset, .unset, .unset, .unset] [(.ref b7)]))
      refine Go.step (fun _ k => XS.dup X7.here hx rfl (hb hby at_49) rfl rfl k) ?_
      show Go _ _ _ _ (T7.setTop (mkF m 50 #[.val (.int x0), .val (.int x1), .val (.int x2), .val (.ref bg), .val (.int (Int32.ofNat n)), .unset, .unset, .unset, .unset, .unset, .unset] [(.ref b7), (.ref b7)]))
      refine goI X7 hx hZ rfl hown (hw _ (List.mem_of_getElem? (i := 6) rfl)) (hw _ (List.mem_of_getElem? (i := 7) rfl)) (hw _ (List.mem_of_getElem? (i := 5) rfl)) (hw _ (List.mem_of_getElem? (i := 8) rfl)) (by decide) (rmI l Z a0 hw [] h7 b7 h0.size ZB go A7 F7_bytes F7_size) e7 (by rw [hml]; rfl) b7 [] [(.ref b7)] rfl pd1 rfl rfl 1 rfl (hb hby at_50) (by decide) (by decide) (by decide) (by decide) fun TC LC vC qC XC => ?_
      obtain ⟨rfl, NC, KC, M0⟩ := qC
      have BAc := BAo.keep KC (ninS nbo nin0)
      have EC : Exa Z TC.heap b7 "com/example/farcall/farcall/MessageBuffer" := M0.choose_spec.choose_spec.2.2.1
      have ZC := Nat.le_trans ZB KC.1
      show Go _ _ _ _ (TC.setTop (mkF m 53 #[.val (.int x0), .val (.int x1), .val (.int x2), .val (.ref bg), .val (.int (Int32.ofNat n)), .unset, .unset, .unset, .unset, .unset, .unset] [(.ref b7)]))
      refine Go.step (fun _ k => XS.astore XC.here hx rfl (hb hby at_53) rfl rfl (l' := #[.val (.int x0), .val (.int x1), .val (.int x2), .val (.ref bg), .val (.int (Int32.ofNat n)), .val (.ref b7), .unset, .unset, .unset, .unset, .unset]) rfl k) ?_
      show Go _ _ _ _ (TC.setTop (mkF m 55 #[.val (.int x0), .val (.int x1), .val (.int x2), .val (.ref bg), .val (.int (Int32.ofNat n)), .val (.ref b7), .unset, .unset, .unset, .unset, .unset] []))
      refine Go.step (fun _ k => XS.aload XC.here hx rfl (hb hby at_55) rfl rfl k) ?_
      show Go _ _ _ _ (TC.setTop (mkF m 57 #[.val (.int x0), .val (.int x1), .val (.int x2), .val (.ref bg), .val (.int (Int32.ofNat n)), .val (.ref b7), .unset, .unset, .unset, .unset, .unset] [(.ref b7)]))
      refine Go.step (fun _ k => XS.aloadN XC.here hx rfl (hb hby at_57) rfl rfl k) ?_
      show Go _ _ _ _ (TC.setTop (mkF m 58 #[.val (.int x0), .val (.int x1), .val (.int x2), .val (.ref bg), .val (.int (Int32.ofNat n)), .val (.ref b7), .unset, .unset, .unset, .unset, .unset] [(.ref bg), (.ref b7)]))
      refine Go.step (fun _ k => XS.iconst XC.here hx rfl (hb hby at_58) k) ?_
      show Go _ _ _ _ (TC.setTop (mkF m 59 #[.val (.int x0), .val (.int x1), .val (.int x2), .val (.ref bg), .val (.int (Int32.ofNat n)), .val (.ref b7), .unset, .unset, .unset, .unset, .unset] [(.int (0 : Int32)), (.ref bg), (.ref b7)]))
      refine Go.step (fun _ k => XS.iload XC.here hx rfl (hb hby at_59) rfl k) ?_
      show Go _ _ _ _ (TC.setTop (mkF m 61 #[.val (.int x0), .val (.int x1), .val (.int x2), .val (.ref bg), .val (.int (Int32.ofNat n)), .val (.ref b7), .unset, .unset, .unset, .unset, .unset] [(.int (Int32.ofNat n)), (.int (0 : Int32)), (.ref bg), (.ref b7)]))
      refine goV XC hx hZ hown (hw _ (List.mem_of_getElem? (i := 19) rfl)) (hw _ (List.mem_of_getElem? (i := 20) rfl)) (notFace_of_selects (args := #[]) (mvT hZ (hw _ (List.mem_of_getElem? (i := 22) rfl)))) (hw _ (List.mem_of_getElem? (i := 22) rfl)) (hw _ (List.mem_of_getElem? (i := 21) rfl)) (hw _ (List.mem_of_getElem? (i := 5) rfl)) (hw _ (List.mem_of_getElem? (i := 23) rfl)) (by decide) (rmWr l Z a0 hw TC.heap b7 bg n h0.size _ BAc M0 hn nbo ZC go) rfl EC (by rw [hml]; rfl) [(.ref bg), (.int (0 : Int32)), (.int (Int32.ofNat n))] [] rfl pd4 rfl rfl 0 rfl (hb hby at_61) (by decide) (by decide) (by decide) (by decide) fun TW LW vW qW XW => ?_
      obtain ⟨rfl, NW, cap1, c11, c12, M1⟩ := qW
      obtain ⟨b1, vs1, gb1, nob1, E1, Fb1, Fs1, BB1⟩ := id M1
      have Z1 : h0.size ≤ TW.heap.size := Nat.le_trans gb1 (Nat.le_of_lt BB1.lt)
      show Go _ _ _ _ (TW.setTop (mkF m 64 #[.val (.int x0), .val (.int x1), .val (.int x2), .val (.ref bg), .val (.int (Int32.ofNat n)), .val (.ref b7), .unset, .unset, .unset, .unset, .unset] []))
      refine Go.step (fun _ k => XS.aload XW.here hx rfl (hb hby at_64) rfl rfl k) ?_
      show Go _ _ _ _ (TW.setTop (mkF m 66 #[.val (.int x0), .val (.int x1), .val (.int x2), .val (.ref bg), .val (.int (Int32.ofNat n)), .val (.ref b7), .unset, .unset, .unset, .unset, .unset] [(.ref b7)]))
      refine goV XW hx hZ hown (hw _ (List.mem_of_getElem? (i := 60) rfl)) (hw _ (List.mem_of_getElem? (i := 61) rfl)) (notFace_of_selects (args := #[]) (mvT hZ (hw _ (List.mem_of_getElem? (i := 63) rfl)))) (hw _ (List.mem_of_getElem? (i := 63) rfl)) (hw _ (List.mem_of_getElem? (i := 62) rfl)) (hw _ (List.mem_of_getElem? (i := 5) rfl)) (hw _ (List.mem_of_getElem? (i := 64) rfl)) (by decide) (rmS l Z a0 hw [] TW.heap b7 n Fs1) rfl E1 (by rw [hml]; rfl) [] [] rfl pd12 rfl rfl 0 rfl (hb hby at_66) (by decide) (by decide) (by decide) (by decide) fun TSa LSa vSa qSa XSa => ?_
      obtain ⟨rfl, eSa, rfl⟩ := qSa
      rw [List.append_nil] at XSa
      show Go _ _ _ _ (TSa.setTop (mkF m 69 #[.val (.int x0), .val (.int x1), .val (.int x2), .val (.ref bg), .val (.int (Int32.ofNat n)), .val (.ref b7), .unset, .unset, .unset, .unset, .unset] [(.int (Int32.ofNat n))]))
      refine Go.step (fun _ k => XS.iload XSa.here hx rfl (hb hby at_69) rfl k) ?_
      show Go _ _ _ _ (TSa.setTop (mkF m 71 #[.val (.int x0), .val (.int x1), .val (.int x2), .val (.ref bg), .val (.int (Int32.ofNat n)), .val (.ref b7), .unset, .unset, .unset, .unset, .unset] [(.int (Int32.ofNat n)), (.int (Int32.ofNat n))]))
      refine Go.step (fun _ k => XS.icmpNo XSa.here hx rfl (hb hby at_71) rfl (teq rfl).2 k) ?_
      show Go _ _ _ _ (TSa.setTop (mkF m 74 #[.val (.int x0), .val (.int x1), .val (.int x2), .val (.ref bg), .val (.int (Int32.ofNat n)), .val (.ref b7), .unset, .unset, .unset, .unset, .unset] []))
      refine Go.step (fun _ k => XS.iconst XSa.here hx rfl (hb hby at_74) k) ?_
      show Go _ _ _ _ (TSa.setTop (mkF m 75 #[.val (.int x0), .val (.int x1), .val (.int x2), .val (.ref bg), .val (.int (Int32.ofNat n)), .val (.ref b7), .unset, .unset, .unset, .unset, .unset] [(.int (1 : Int32))]))
      refine Go.step (fun _ k => XS.goto XSa.here hx rfl (pc0 := 75) (pc' := 79) rfl (hb hby at_75) (by decide) (by decide) k) ?_
      show Go _ _ _ _ (TSa.setTop (mkF m 79 #[.val (.int x0), .val (.int x1), .val (.int x2), .val (.ref bg), .val (.int (Int32.ofNat n)), .val (.ref b7), .unset, .unset, .unset, .unset, .unset] [(.int (1 : Int32))]))
      refine Go.step (fun _ k => XS.istore XSa.here hx rfl (hb hby at_79) rfl (l' := #[.val (.int x0), .val (.int x1), .val (.int x2), .val (.ref bg), .val (.int (Int32.ofNat n)), .val (.ref b7), .val (.int (1 : Int32)), .unset, .unset, .unset, .unset]) rfl k) ?_
      show Go _ _ _ _ (TSa.setTop (mkF m 81 #[.val (.int x0), .val (.int x1), .val (.int x2), .val (.ref bg), .val (.int (Int32.ofNat n)), .val (.ref b7), .val (.int (1 : Int32)), .unset, .unset, .unset, .unset] []))
      refine Go.step (fun _ k => XS.aload XSa.here hx rfl (hb hby at_81) rfl rfl k) ?_
      show Go _ _ _ _ (TSa.setTop (mkF m 83 #[.val (.int x0), .val (.int x1), .val (.int x2), .val (.ref bg), .val (.int (Int32.ofNat n)), .val (.ref b7), .val (.int (1 : Int32)), .unset, .unset, .unset, .unset] [(.ref b7)]))
      refine goV XSa hx hZ hown (hw _ (List.mem_of_getElem? (i := 65) rfl)) (hw _ (List.mem_of_getElem? (i := 66) rfl)) (notFace_of_selects (args := #[]) (mvT hZ (hw _ (List.mem_of_getElem? (i := 68) rfl)))) (hw _ (List.mem_of_getElem? (i := 68) rfl)) (hw _ (List.mem_of_getElem? (i := 67) rfl)) (hw _ (List.mem_of_getElem? (i := 5) rfl)) (hw _ (List.mem_of_getElem? (i := 69) rfl)) (by decide) (rmR l Z a0 hw [] TW.heap b7 h0.size cap1 n Z1 go c11 c12 M1) eSa E1 (by rw [hml]; rfl) [] [] rfl pd13 rfl rfl 0 rfl (hb hby at_83) (by decide) (by decide) (by decide) (by decide) fun TR LR vR qR XR => ?_
      obtain ⟨rfl, NR, cap2, c21, c22, M2⟩ := qR
      obtain ⟨b2, vs2, gb2, nob2, E2, Fb2, Fs2, BB2⟩ := id M2
      have Z2 : h0.size ≤ TR.heap.size := Nat.le_trans gb2 (Nat.le_of_lt BB2.lt)
      show Go _ _ _ _ (TR.setTop (mkF m 86 #[.val (.int x0), .val (.int x1), .val (.int x2), .val (.ref bg), .val (.int (Int32.ofNat n)), .val (.ref b7), .val (.int (1 : Int32)), .unset, .unset, .unset, .unset] []))
      refine Go.step (fun _ k => XS.aload XR.here hx rfl (hb hby at_86) rfl rfl k) ?_
      show Go _ _ _ _ (TR.setTop (mkF m 88 #[.val (.int x0), .val (.int x1), .val (.int x2), .val (.ref bg), .val (.int (Int32.ofNat n)), .val (.ref b7), .val (.int (1 : Int32)), .unset, .unset, .unset, .unset] [(.ref b7)]))
      refine goV XR hx hZ hown (hw _ (List.mem_of_getElem? (i := 60) rfl)) (hw _ (List.mem_of_getElem? (i := 61) rfl)) (notFace_of_selects (args := #[]) (mvT hZ (hw _ (List.mem_of_getElem? (i := 63) rfl)))) (hw _ (List.mem_of_getElem? (i := 63) rfl)) (hw _ (List.mem_of_getElem? (i := 62) rfl)) (hw _ (List.mem_of_getElem? (i := 5) rfl)) (hw _ (List.mem_of_getElem? (i := 64) rfl)) (by decide) (rmS l Z a0 hw [] TR.heap b7 0 Fs2) rfl E2 (by rw [hml]; rfl) [] [] rfl pd12 rfl rfl 0 rfl (hb hby at_88) (by decide) (by decide) (by decide) (by decide) fun TSb LSb vSb qSb XSb => ?_
      obtain ⟨rfl, eSb, rfl⟩ := qSb
      rw [List.append_nil] at XSb
      show Go _ _ _ _ (TSb.setTop (mkF m 91 #[.val (.int x0), .val (.int x1), .val (.int x2), .val (.ref bg), .val (.int (Int32.ofNat n)), .val (.ref b7), .val (.int (1 : Int32)), .unset, .unset, .unset, .unset] [(.int (Int32.ofNat 0))]))
      refine Go.step (fun _ k => XS.ifNo XSb.here hx rfl (hb hby at_91) rfl ((if0 _ _).trans (teq rfl).2) k) ?_
      show Go _ _ _ _ (TSb.setTop (mkF m 94 #[.val (.int x0), .val (.int x1), .val (.int x2), .val (.ref bg), .val (.int (Int32.ofNat n)), .val (.ref b7), .val (.int (1 : Int32)), .unset, .unset, .unset, .unset] []))
      refine Go.step (fun _ k => XS.iconst XSb.here hx rfl (hb hby at_94) k) ?_
      show Go _ _ _ _ (TSb.setTop (mkF m 95 #[.val (.int x0), .val (.int x1), .val (.int x2), .val (.ref bg), .val (.int (Int32.ofNat n)), .val (.ref b7), .val (.int (1 : Int32)), .unset, .unset, .unset, .unset] [(.int (1 : Int32))]))
      refine Go.step (fun _ k => XS.goto XSb.here hx rfl (pc0 := 95) (pc' := 99) rfl (hb hby at_95) (by decide) (by decide) k) ?_
      show Go _ _ _ _ (TSb.setTop (mkF m 99 #[.val (.int x0), .val (.int x1), .val (.int x2), .val (.ref bg), .val (.int (Int32.ofNat n)), .val (.ref b7), .val (.int (1 : Int32)), .unset, .unset, .unset, .unset] [(.int (1 : Int32))]))
      refine Go.step (fun _ k => XS.istore XSb.here hx rfl (hb hby at_99) rfl (l' := #[.val (.int x0), .val (.int x1), .val (.int x2), .val (.ref bg), .val (.int (Int32.ofNat n)), .val (.ref b7), .val (.int (1 : Int32)), .val (.int (1 : Int32)), .unset, .unset, .unset]) rfl k) ?_
      show Go _ _ _ _ (TSb.setTop (mkF m 101 #[.val (.int x0), .val (.int x1), .val (.int x2), .val (.ref bg), .val (.int (Int32.ofNat n)), .val (.ref b7), .val (.int (1 : Int32)), .val (.int (1 : Int32)), .unset, .unset, .unset] []))
      refine Go.step (fun _ k => XS.aload XSb.here hx rfl (hb hby at_101) rfl rfl k) ?_
      show Go _ _ _ _ (TSb.setTop (mkF m 103 #[.val (.int x0), .val (.int x1), .val (.int x2), .val (.ref bg), .val (.int (Int32.ofNat n)), .val (.ref b7), .val (.int (1 : Int32)), .val (.int (1 : Int32)), .unset, .unset, .unset] [(.ref b7)]))
      refine goV XSb hx hZ hown (hw _ (List.mem_of_getElem? (i := 71) rfl)) (hw _ (List.mem_of_getElem? (i := 72) rfl)) (notFace_of_selects (args := #[]) (mvT hZ (hw _ (List.mem_of_getElem? (i := 74) rfl)))) (hw _ (List.mem_of_getElem? (i := 74) rfl)) (hw _ (List.mem_of_getElem? (i := 73) rfl)) (hw _ (List.mem_of_getElem? (i := 5) rfl)) (hw _ (List.mem_of_getElem? (i := 75) rfl)) (by decide) (rmT l Z a0 hw [] TR.heap b7 b2 0 cap2 h0.size vs2 Fb2 Fs2 BB2 (by omega) c21 c22 Z2) eSb E2 (by rw [hml]; rfl) [] [] rfl pd14 rfl rfl 0 rfl (hb hby at_103) (by decide) (by decide) (by decide) (by decide) fun TA LA vA qA XA => ?_
      obtain ⟨r3, vs3, rfl, NA, KA, B3, -⟩ := qA
      have E3 := E2.keep KA
      have Fb3 := Fb2.keep KA nin0
      have Fs3 := Fs2.keep KA nin0
      have BB3 := BB2.keep KA nin0
      show Go _ _ _ _ (TA.setTop (mkF m 106 #[.val (.int x0), .val (.int x1), .val (.int x2), .val (.ref bg), .val (.int (Int32.ofNat n)), .val (.ref b7), .val (.int (1 : Int32)), .val (.int (1 : Int32)), .unset, .unset, .unset] [(.ref r3)]))
      refine Go.step (fun _ k => XS.astore XA.here hx rfl (hb hby at_106) rfl rfl (l' := #[.val (.int x0), .val (.int x1), .val (.int x2), .val (.ref bg), .val (.int (Int32.ofNat n)), .val (.ref b7), .val (.int (1 : Int32)), .val (.int (1 : Int32)), .val (.ref r3), .unset, .unset]) rfl k) ?_
      show Go _ _ _ _ (TA.setTop (mkF m 108 #[.val (.int x0), .val (.int x1), .val (.int x2), .val (.ref bg), .val (.int (Int32.ofNat n)), .val (.ref b7), .val (.int (1 : Int32)), .val (.int (1 : Int32)), .val (.ref r3), .unset, .unset] []))
      refine Go.step (fun _ k => XS.aload XA.here hx rfl (hb hby at_108) rfl rfl k) ?_
      show Go _ _ _ _ (TA.setTop (mkF m 110 #[.val (.int x0), .val (.int x1), .val (.int x2), .val (.ref bg), .val (.int (Int32.ofNat n)), .val (.ref b7), .val (.int (1 : Int32)), .val (.int (1 : Int32)), .val (.ref r3), .unset, .unset] [(.ref r3)]))
      obtain ⟨⟨k8, cl8, Ar8, q8, S8, N8, H8, G8⟩, l8⟩ := id B3
      refine Go.step (fun tg k => XA.arraylength hx (by exact Ar8.1) (State.isArrayOf_alike hZ.alike Ar8.2.1) (g := (mkF m 110 #[.val (.int x0), .val (.int x1), .val (.int x2), .val (.ref bg), .val (.int (Int32.ofNat n)), .val (.ref b7), .val (.int (1 : Int32)), .val (.int (1 : Int32)), .val (.ref r3), .unset, .unset] [(.ref r3)])) rfl rfl (hb hby at_110) tg k) ?_
      rw [len_of S8 N8]
      show Go _ _ _ _ (TA.setTop (mkF m 111 #[.val (.int x0), .val (.int x1), .val (.int x2), .val (.ref bg), .val (.int (Int32.ofNat n)), .val (.ref b7), .val (.int (1 : Int32)), .val (.int (1 : Int32)), .val (.ref r3), .unset, .unset] [(.int (Int32.ofNat 0))]))
      refine Go.step (fun _ k => XS.ifNo XA.here hx rfl (hb hby at_111) rfl ((if0 _ _).trans (teq rfl).2) k) ?_
      show Go _ _ _ _ (TA.setTop (mkF m 114 #[.val (.int x0), .val (.int x1), .val (.int x2), .val (.ref bg), .val (.int (Int32.ofNat n)), .val (.ref b7), .val (.int (1 : Int32)), .val (.int (1 : Int32)), .val (.ref r3), .unset, .unset] []))
      refine Go.step (fun _ k => XS.iconst XA.here hx rfl (hb hby at_114) k) ?_
      show Go _ _ _ _ (TA.setTop (mkF m 115 #[.val (.int x0), .val (.int x1), .val (.int x2), .val (.ref bg), .val (.int (Int32.ofNat n)), .val (.ref b7), .val (.int (1 : Int32)), .val (.int (1 : Int32)), .val (.ref r3), .unset, .unset] [(.int (1 : Int32))]))
      refine Go.step (fun _ k => XS.goto XA.here hx rfl (pc0 := 115) (pc' := 119) rfl (hb hby at_115) (by decide) (by decide) k) ?_
      show Go _ _ _ _ (TA.setTop (mkF m 119 #[.val (.int x0), .val (.int x1), .val (.int x2), .val (.ref bg), .val (.int (Int32.ofNat n)), .val (.ref b7), .val (.int (1 : Int32)), .val (.int (1 : Int32)), .val (.ref r3), .unset, .unset] [(.int (1 : Int32))]))
      refine Go.step (fun _ k => XS.istore XA.here hx rfl (hb hby at_119) rfl (l' := #[.val (.int x0), .val (.int x1), .val (.int x2), .val (.ref bg), .val (.int (Int32.ofNat n)), .val (.ref b7), .val (.int (1 : Int32)), .val (.int (1 : Int32)), .val (.ref r3), .val (.int (1 : Int32)), .unset]) rfl k) ?_
      show Go _ _ _ _ (TA.setTop (mkF m 121 #[.val (.int x0), .val (.int x1), .val (.int x2), .val (.ref bg), .val (.int (Int32.ofNat n)), .val (.ref b7), .val (.int (1 : Int32)), .val (.int (1 : Int32)), .val (.ref r3), .val (.int (1 : Int32)), .unset] []))
      refine Go.step (fun _ k => XS.aload XA.here hx rfl (hb hby at_121) rfl rfl k) ?_
      show Go _ _ _ _ (TA.setTop (mkF m 123 #[.val (.int x0), .val (.int x1), .val (.int x2), .val (.ref bg), .val (.int (Int32.ofNat n)), .val (.ref b7), .val (.int (1 : Int32)), .val (.int (1 : Int32)), .val (.ref r3), .val (.int (1 : Int32)), .unset] [(.ref b7)]))
      refine Go.step (fun _ k => XS.iloadN XA.here hx rfl (hb hby at_123) rfl k) ?_
      show Go _ _ _ _ (TA.setTop (mkF m 124 #[.val (.int x0), .val (.int x1), .val (.int x2), .val (.ref bg), .val (.int (Int32.ofNat n)), .val (.ref b7), .val (.int (1 : Int32)), .val (.int (1 : Int32)), .val (.ref r3), .val (.int (1 : Int32)), .unset] [(.int x2), (.ref b7)]))
      refine goV XA hx hZ hown (hw _ (List.mem_of_getElem? (i := 76) rfl)) (hw _ (List.mem_of_getElem? (i := 77) rfl)) (notFace_of_selects (args := #[]) (mvT hZ (hw _ (List.mem_of_getElem? (i := 79) rfl)))) (hw _ (List.mem_of_getElem? (i := 79) rfl)) (hw _ (List.mem_of_getElem? (i := 78) rfl)) (hw _ (List.mem_of_getElem? (i := 5) rfl)) (hw _ (List.mem_of_getElem? (i := 80) rfl)) (by decide) (rmW l Z a0 hw [] TA.heap b7 b2 x2 cap2 h0.size vs2 E3 Fb3 Fs3 BB3 c21 c22 gb2 go nob2) rfl E3 (by rw [hml]; rfl) [(.int x2)] [] rfl pd15 rfl rfl 0 rfl (hb hby at_124) (by decide) (by decide) (by decide) (by decide) fun TI LI vI qI XI => ?_
      obtain ⟨rfl, NI, vs5, E5, Fb5, Fs5, BB5, g50, g51, g52, g53⟩ := qI
      have Z5 : h0.size ≤ TI.heap.size := Nat.le_trans gb2 (Nat.le_of_lt BB5.lt)
      show Go _ _ _ _ (TI.setTop (mkF m 127 #[.val (.int x0), .val (.int x1), .val (.int x2), .val (.ref bg), .val (.int (Int32.ofNat n)), .val (.ref b7), .val (.int (1 : Int32)), .val (.int (1 : Int32)), .val (.ref r3), .val (.int (1 : Int32)), .unset] []))
      refine Go.step (fun _ k => XS.aload XI.here hx rfl (hb hby at_127) rfl rfl k) ?_
      show Go _ _ _ _ (TI.setTop (mkF m 129 #[.val (.int x0), .val (.int x1), .val (.int x2), .val (.ref bg), .val (.int (Int32.ofNat n)), .val (.ref b7), .val (.int (1 : Int32)), .val (.int (1 : Int32)), .val (.ref r3), .val (.int (1 : Int32)), .unset] [(.ref b7)]))
      refine goV XI hx hZ hown (hw _ (List.mem_of_getElem? (i := 71) rfl)) (hw _ (List.mem_of_getElem? (i := 72) rfl)) (notFace_of_selects (args := #[]) (mvT hZ (hw _ (List.mem_of_getElem? (i := 74) rfl)))) (hw _ (List.mem_of_getElem? (i := 74) rfl)) (hw _ (List.mem_of_getElem? (i := 73) rfl)) (hw _ (List.mem_of_getElem? (i := 5) rfl)) (hw _ (List.mem_of_getElem? (i := 75) rfl)) (by decide) (rmT l Z a0 hw [] TI.heap b7 b2 4 cap2 h0.size vs5 Fb5 Fs5 BB5 (by omega) c21 c22 Z5) rfl E5 (by rw [hml]; rfl) [] [] rfl pd14 rfl rfl 0 rfl (hb hby at_129) (by decide) (by decide) (by decide) (by decide) fun TB LB vB qB XB => ?_
      obtain ⟨r6, vs6, rfl, NB, KB, B6, h6⟩ := qB
      have E6 := E5.keep KB
      have Fs6 := Fs5.keep KB nin0
      obtain ⟨⟨kzz, clzz, Arzz, qzz, Szz, Nzz, Hzz, Gzz⟩, lzz⟩ := id B6
      have szz : clzz.slots.size = 4 := Szz
      show Go _ _ _ _ (TB.setTop (mkF m 132 #[.val (.int x0), .val (.int x1), .val (.int x2), .val (.ref bg), .val (.int (Int32.ofNat n)), .val (.ref b7), .val (.int (1 : Int32)), .val (.int (1 : Int32)), .val (.ref r3), .val (.int (1 : Int32)), .unset] [(.ref r6)]))
      refine Go.step (fun _ k => XS.astore XB.here hx rfl (hb hby at_132) rfl rfl (l' := #[.val (.int x0), .val (.int x1), .val (.int x2), .val (.ref bg), .val (.int (Int32.ofNat n)), .val (.ref b7), .val (.int (1 : Int32)), .val (.int (1 : Int32)), .val (.ref r3), .val (.int (1 : Int32)), .val (.ref r6)]) rfl k) ?_
      show Go _ _ _ _ (TB.setTop (mkF m 134 #[.val (.int x0), .val (.int x1), .val (.int x2), .val (.ref bg), .val (.int (Int32.ofNat n)), .val (.ref b7), .val (.int (1 : Int32)), .val (.int (1 : Int32)), .val (.ref r3), .val (.int (1 : Int32)), .val (.ref r6)] []))
      refine Go.step (fun _ k => XS.iload XB.here hx rfl (hb hby at_134) rfl k) ?_
      show Go _ _ _ _ (TB.setTop (mkF m 136 #[.val (.int x0), .val (.int x1), .val (.int x2), .val (.ref bg), .val (.int (Int32.ofNat n)), .val (.ref b7), .val (.int (1 : Int32)), .val (.int (1 : Int32)), .val (.ref r3), .val (.int (1 : Int32)), .val (.ref r6)] [(.int (1 : Int32))]))
      refine Go.step (fun _ k => XS.ifNo XB.here hx rfl (hb hby at_136) rfl ((if0 _ _).trans (feq (by decide : ¬ ((1 : Int32) = (0 : Int32)))).1) k) ?_
      show Go _ _ _ _ (TB.setTop (mkF m 139 #[.val (.int x0), .val (.int x1), .val (.int x2), .val (.ref bg), .val (.int (Int32.ofNat n)), .val (.ref b7), .val (.int (1 : Int32)), .val (.int (1 : Int32)), .val (.ref r3), .val (.int (1 : Int32)), .val (.ref r6)] []))
      refine Go.step (fun _ k => XS.iload XB.here hx rfl (hb hby at_139) rfl k) ?_
      show Go _ _ _ _ (TB.setTop (mkF m 141 #[.val (.int x0), .val (.int x1), .val (.int x2), .val (.ref bg), .val (.int (Int32.ofNat n)), .val (.ref b7), .val (.int (1 : Int32)), .val (.int (1 : Int32)), .val (.ref r3), .val (.int (1 : Int32)), .val (.ref r6)] [(.int (1 : Int32))]))
      refine Go.step (fun _ k => XS.ifNo XB.here hx rfl (hb hby at_141) rfl ((if0 _ _).trans (feq (by decide : ¬ ((1 : Int32) = (0 : Int32)))).1) k) ?_
      show Go _ _ _ _ (TB.setTop (mkF m 144 #[.val (.int x0), .val (.int x1), .val (.int x2), .val (.ref bg), .val (.int (Int32.ofNat n)), .val (.ref b7), .val (.int (1 : Int32)), .val (.int (1 : Int32)), .val (.ref r3), .val (.int (1 : Int32)), .val (.ref r6)] []))
      refine Go.step (fun _ k => XS.iload XB.here hx rfl (hb hby at_144) rfl k) ?_
      show Go _ _ _ _ (TB.setTop (mkF m 146 #[.val (.int x0), .val (.int x1), .val (.int x2), .val (.ref bg), .val (.int (Int32.ofNat n)), .val (.ref b7), .val (.int (1 : Int32)), .val (.int (1 : Int32)), .val (.ref r3), .val (.int (1 : Int32)), .val (.ref r6)] [(.int (1 : Int32))]))
      refine Go.step (fun _ k => XS.ifNo XB.here hx rfl (hb hby at_146) rfl ((if0 _ _).trans (feq (by decide : ¬ ((1 : Int32) = (0 : Int32)))).1) k) ?_
      show Go _ _ _ _ (TB.setTop (mkF m 149 #[.val (.int x0), .val (.int x1), .val (.int x2), .val (.ref bg), .val (.int (Int32.ofNat n)), .val (.ref b7), .val (.int (1 : Int32)), .val (.int (1 : Int32)), .val (.ref r3), .val (.int (1 : Int32)), .val (.ref r6)] []))
      refine Go.step (fun _ k => XS.aload XB.here hx rfl (hb hby at_149) rfl rfl k) ?_
      show Go _ _ _ _ (TB.setTop (mkF m 151 #[.val (.int x0), .val (.int x1), .val (.int x2), .val (.ref bg), .val (.int (Int32.ofNat n)), .val (.ref b7), .val (.int (1 : Int32)), .val (.int (1 : Int32)), .val (.ref r3), .val (.int (1 : Int32)), .val (.ref r6)] [(.ref b7)]))
      refine goV XB hx hZ hown (hw _ (List.mem_of_getElem? (i := 60) rfl)) (hw _ (List.mem_of_getElem? (i := 61) rfl)) (notFace_of_selects (args := #[]) (mvT hZ (hw _ (List.mem_of_getElem? (i := 63) rfl)))) (hw _ (List.mem_of_getElem? (i := 63) rfl)) (hw _ (List.mem_of_getElem? (i := 62) rfl)) (hw _ (List.mem_of_getElem? (i := 5) rfl)) (hw _ (List.mem_of_getElem? (i := 64) rfl)) (by decide) (rmS l Z a0 hw [] TB.heap b7 4 Fs6) rfl E6 (by rw [hml]; rfl) [] [] rfl pd12 rfl rfl 0 rfl (hb hby at_151) (by decide) (by decide) (by decide) (by decide) fun TSc LSc vSc qSc XSc => ?_
      obtain ⟨rfl, eSc, rfl⟩ := qSc
      rw [List.append_nil] at XSc
      show Go _ _ _ _ (TSc.setTop (mkF m 154 #[.val (.int x0), .val (.int x1), .val (.int x2), .val (.ref bg), .val (.int (Int32.ofNat n)), .val (.ref b7), .val (.int (1 : Int32)), .val (.int (1 : Int32)), .val (.ref r3), .val (.int (1 : Int32)), .val (.ref r6)] [(.int (Int32.ofNat 4))]))
      refine Go.step (fun _ k => XS.iconst XSc.here hx rfl (hb hby at_154) k) ?_
      show Go _ _ _ _ (TSc.setTop (mkF m 155 #[.val (.int x0), .val (.int x1), .val (.int x2), .val (.ref bg), .val (.int (Int32.ofNat n)), .val (.ref b7), .val (.int (1 : Int32)), .val (.int (1 : Int32)), .val (.ref r3), .val (.int (1 : Int32)), .val (.ref r6)] [(.int (4 : Int32)), (.int (Int32.ofNat 4))]))
      refine Go.step (fun _ k => XS.icmpNo XSc.here hx rfl (hb hby at_155) rfl (teq rfl).2 k) ?_
      show Go _ _ _ _ (TSc.setTop (mkF m 158 #[.val (.int x0), .val (.int x1), .val (.int x2), .val (.ref bg), .val (.int (Int32.ofNat n)), .val (.ref b7), .val (.int (1 : Int32)), .val (.int (1 : Int32)), .val (.ref r3), .val (.int (1 : Int32)), .val (.ref r6)] []))
      refine Go.step (fun _ k => XS.aload XSc.here hx rfl (hb hby at_158) rfl rfl k) ?_
      show Go _ _ _ _ (TSc.setTop (mkF m 160 #[.val (.int x0), .val (.int x1), .val (.int x2), .val (.ref bg), .val (.int (Int32.ofNat n)), .val (.ref b7), .val (.int (1 : Int32)), .val (.int (1 : Int32)), .val (.ref r3), .val (.int (1 : Int32)), .val (.ref r6)] [(.ref r6)]))
      obtain ⟨⟨k9, cl9, Ar9, q9, S9, N9, H9, G9⟩, l9⟩ := id B6
      refine Go.step (fun tg k => XSc.arraylength hx (by rw [eSc]; exact Ar9.1) (State.isArrayOf_alike hZ.alike Ar9.2.1) (g := (mkF m 160 #[.val (.int x0), .val (.int x1), .val (.int x2), .val (.ref bg), .val (.int (Int32.ofNat n)), .val (.ref b7), .val (.int (1 : Int32)), .val (.int (1 : Int32)), .val (.ref r3), .val (.int (1 : Int32)), .val (.ref r6)] [(.ref r6)])) rfl rfl (hb hby at_160) tg k) ?_
      rw [len_of S9 N9]
      show Go _ _ _ _ (TSc.setTop (mkF m 161 #[.val (.int x0), .val (.int x1), .val (.int x2), .val (.ref bg), .val (.int (Int32.ofNat n)), .val (.ref b7), .val (.int (1 : Int32)), .val (.int (1 : Int32)), .val (.ref r3), .val (.int (1 : Int32)), .val (.ref r6)] [(.int (Int32.ofNat 4))]))
      refine Go.step (fun _ k => XS.iconst XSc.here hx rfl (hb hby at_161) k) ?_
      show Go _ _ _ _ (TSc.setTop (mkF m 162 #[.val (.int x0), .val (.int x1), .val (.int x2), .val (.ref bg), .val (.int (Int32.ofNat n)), .val (.ref b7), .val (.int (1 : Int32)), .val (.int (1 : Int32)), .val (.ref r3), .val (.int (1 : Int32)), .val (.ref r6)] [(.int (4 : Int32)), (.int (Int32.ofNat 4))]))
      refine Go.step (fun _ k => XS.icmpNo XSc.here hx rfl (hb hby at_162) rfl (teq rfl).2 k) ?_
      show Go _ _ _ _ (TSc.setTop (mkF m 165 #[.val (.int x0), .val (.int x1), .val (.int x2), .val (.ref bg), .val (.int (Int32.ofNat n)), .val (.ref b7), .val (.int (1 : Int32)), .val (.int (1 : Int32)), .val (.ref r3), .val (.int (1 : Int32)), .val (.ref r6)] []))
      refine Go.step (fun _ k => XS.aload XSc.here hx rfl (hb hby at_165) rfl rfl k) ?_
      show Go _ _ _ _ (TSc.setTop (mkF m 167 #[.val (.int x0), .val (.int x1), .val (.int x2), .val (.ref bg), .val (.int (Int32.ofNat n)), .val (.ref b7), .val (.int (1 : Int32)), .val (.int (1 : Int32)), .val (.ref r3), .val (.int (1 : Int32)), .val (.ref r6)] [(.ref r6)]))
      refine Go.step (fun _ k => XS.iconst XSc.here hx rfl (hb hby at_167) k) ?_
      show Go _ _ _ _ (TSc.setTop (mkF m 168 #[.val (.int x0), .val (.int x1), .val (.int x2), .val (.ref bg), .val (.int (Int32.ofNat n)), .val (.ref b7), .val (.int (1 : Int32)), .val (.int (1 : Int32)), .val (.ref r3), .val (.int (1 : Int32)), .val (.ref r6)] [(.int (0 : Int32)), (.ref r6)]))
      refine Go.step (fun tg k => XSc.baloadBytes hx (j := (0 : Int32)) (v := .int (((x2.toUInt32 >>> ((24 : Int32) &&& 31).toUInt32).toInt32).toInt8.toInt32)) (by rw [eSc]; exact Arzz.1) (State.isArrayOf_alike hZ.alike Arzz.2.1) Arzz.2.2 (own_in (i := 0) (by rw [szz]; decide) (by decide)) (Hzz.at (own_in (i := 0) (by rw [szz]; decide) (by decide)) ((h6 0 (by omega)).trans g50)) (g := (mkF m 168 #[.val (.int x0), .val (.int x1), .val (.int x2), .val (.ref bg), .val (.int (Int32.ofNat n)), .val (.ref b7), .val (.int (1 : Int32)), .val (.int (1 : Int32)), .val (.ref r3), .val (.int (1 : Int32)), .val (.ref r6)] [(.int (0 : Int32)), (.ref r6)])) rfl rfl (hb hby at_168) tg k) ?_
      show Go _ _ _ _ (TSc.setTop (mkF m 169 #[.val (.int x0), .val (.int x1), .val (.int x2), .val (.ref bg), .val (.int (Int32.ofNat n)), .val (.ref b7), .val (.int (1 : Int32)), .val (.int (1 : Int32)), .val (.ref r3), .val (.int (1 : Int32)), .val (.ref r6)] [(.int (((x2.toUInt32 >>> ((24 : Int32) &&& 31).toUInt32).toInt32).toInt8.toInt32))]))
      refine Go.step (fun _ k => XS.iloadN XSc.here hx rfl (hb hby at_169) rfl k) ?_
      show Go _ _ _ _ (TSc.setTop (mkF m 170 #[.val (.int x0), .val (.int x1), .val (.int x2), .val (.ref bg), .val (.int (Int32.ofNat n)), .val (.ref b7), .val (.int (1 : Int32)), .val (.int (1 : Int32)), .val (.ref r3), .val (.int (1 : Int32)), .val (.ref r6)] [(.int x2), (.int (((x2.toUInt32 >>> ((24 : Int32) &&& 31).toUInt32).toInt32).toInt8.toInt32))]))
      refine Go.step (fun _ k => XS.bipush XSc.here hx rfl (hb hby at_170) k) ?_
      show Go _ _ _ _ (TSc.setTop (mkF m 172 #[.val (.int x0), .val (.int x1), .val (.int x2), .val (.ref bg), .val (.int (Int32.ofNat n)), .val (.ref b7), .val (.int (1 : Int32)), .val (.int (1 : Int32)), .val (.ref r3), .val (.int (1 : Int32)), .val (.ref r6)] [(.int (24 : Int32)), (.int x2), (.int (((x2.toUInt32 >>> ((24 : Int32) &&& 31).toUInt32).toInt32).toInt8.toInt32))]))
      refine Go.step (fun _ k => XS.iushr XSc.here hx rfl (hb hby at_172) rfl k) ?_
      show Go _ _ _ _ (TSc.setTop (mkF m 173 #[.val (.int x0), .val (.int x1), .val (.int x2), .val (.ref bg), .val (.int (Int32.ofNat n)), .val (.ref b7), .val (.int (1 : Int32)), .val (.int (1 : Int32)), .val (.ref r3), .val (.int (1 : Int32)), .val (.ref r6)] [(.int ((x2.toUInt32 >>> ((24 : Int32) &&& 31).toUInt32).toInt32)), (.int (((x2.toUInt32 >>> ((24 : Int32) &&& 31).toUInt32).toInt32).toInt8.toInt32))]))
      refine Go.step (fun _ k => XS.i2b XSc.here hx rfl (hb hby at_173) rfl k) ?_
      show Go _ _ _ _ (TSc.setTop (mkF m 174 #[.val (.int x0), .val (.int x1), .val (.int x2), .val (.ref bg), .val (.int (Int32.ofNat n)), .val (.ref b7), .val (.int (1 : Int32)), .val (.int (1 : Int32)), .val (.ref r3), .val (.int (1 : Int32)), .val (.ref r6)] [(.int (((x2.toUInt32 >>> ((24 : Int32) &&& 31).toUInt32).toInt32).toInt8.toInt32)), (.int (((x2.toUInt32 >>> ((24 : Int32) &&& 31).toUInt32).toInt32).toInt8.toInt32))]))
      refine Go.step (fun _ k => XS.icmpNo XSc.here hx rfl (hb hby at_174) rfl (teq rfl).2 k) ?_
      show Go _ _ _ _ (TSc.setTop (mkF m 177 #[.val (.int x0), .val (.int x1), .val (.int x2), .val (.ref bg), .val (.int (Int32.ofNat n)), .val (.ref b7), .val (.int (1 : Int32)), .val (.int (1 : Int32)), .val (.ref r3), .val (.int (1 : Int32)), .val (.ref r6)] []))
      refine Go.step (fun _ k => XS.aload XSc.here hx rfl (hb hby at_177) rfl rfl k) ?_
      show Go _ _ _ _ (TSc.setTop (mkF m 179 #[.val (.int x0), .val (.int x1), .val (.int x2), .val (.ref bg), .val (.int (Int32.ofNat n)), .val (.ref b7), .val (.int (1 : Int32)), .val (.int (1 : Int32)), .val (.ref r3), .val (.int (1 : Int32)), .val (.ref r6)] [(.ref r6)]))
      refine Go.step (fun _ k => XS.iconst XSc.here hx rfl (hb hby at_179) k) ?_
      show Go _ _ _ _ (TSc.setTop (mkF m 180 #[.val (.int x0), .val (.int x1), .val (.int x2), .val (.ref bg), .val (.int (Int32.ofNat n)), .val (.ref b7), .val (.int (1 : Int32)), .val (.int (1 : Int32)), .val (.ref r3), .val (.int (1 : Int32)), .val (.ref r6)] [(.int (1 : Int32)), (.ref r6)]))
      refine Go.step (fun tg k => XSc.baloadBytes hx (j := (1 : Int32)) (v := .int (((x2.toUInt32 >>> ((16 : Int32) &&& 31).toUInt32).toInt32).toInt8.toInt32)) (by rw [eSc]; exact Arzz.1) (State.isArrayOf_alike hZ.alike Arzz.2.1) Arzz.2.2 (own_in (i := 1) (by rw [szz]; decide) (by decide)) (Hzz.at (own_in (i := 1) (by rw [szz]; decide) (by decide)) ((h6 1 (by omega)).trans g51)) (g := (mkF m 180 #[.val (.int x0), .val (.int x1), .val (.int x2), .val (.ref bg), .val (.int (Int32.ofNat n)), .val (.ref b7), .val (.int (1 : Int32)), .val (.int (1 : Int32)), .val (.ref r3), .val (.int (1 : Int32)), .val (.ref r6)] [(.int (1 : Int32)), (.ref r6)])) rfl rfl (hb hby at_180) tg k) ?_
      show Go _ _ _ _ (TSc.setTop (mkF m 181 #[.val (.int x0), .val (.int x1), .val (.int x2), .val (.ref bg), .val (.int (Int32.ofNat n)), .val (.ref b7), .val (.int (1 : Int32)), .val (.int (1 : Int32)), .val (.ref r3), .val (.int (1 : Int32)), .val (.ref r6)] [(.int (((x2.toUInt32 >>> ((16 : Int32) &&& 31).toUInt32).toInt32).toInt8.toInt32))]))
      refine Go.step (fun _ k => XS.iloadN XSc.here hx rfl (hb hby at_181) rfl k) ?_
      show Go _ _ _ _ (TSc.setTop (mkF m 182 #[.val (.int x0), .val (.int x1), .val (.int x2), .val (.ref bg), .val (.int (Int32.ofNat n)), .val (.ref b7), .val (.int (1 : Int32)), .val (.int (1 : Int32)), .val (.ref r3), .val (.int (1 : Int32)), .val (.ref r6)] [(.int x2), (.int (((x2.toUInt32 >>> ((16 : Int32) &&& 31).toUInt32).toInt32).toInt8.toInt32))]))
      refine Go.step (fun _ k => XS.bipush XSc.here hx rfl (hb hby at_182) k) ?_
      show Go _ _ _ _ (TSc.setTop (mkF m 184 #[.val (.int x0), .val (.int x1), .val (.int x2), .val (.ref bg), .val (.int (Int32.ofNat n)), .val (.ref b7), .val (.int (1 : Int32)), .val (.int (1 : Int32)), .val (.ref r3), .val (.int (1 : Int32)), .val (.ref r6)] [(.int (16 : Int32)), (.int x2), (.int (((x2.toUInt32 >>> ((16 : Int32) &&& 31).toUInt32).toInt32).toInt8.toInt32))]))
      refine Go.step (fun _ k => XS.iushr XSc.here hx rfl (hb hby at_184) rfl k) ?_
      show Go _ _ _ _ (TSc.setTop (mkF m 185 #[.val (.int x0), .val (.int x1), .val (.int x2), .val (.ref bg), .val (.int (Int32.ofNat n)), .val (.ref b7), .val (.int (1 : Int32)), .val (.int (1 : Int32)), .val (.ref r3), .val (.int (1 : Int32)), .val (.ref r6)] [(.int ((x2.toUInt32 >>> ((16 : Int32) &&& 31).toUInt32).toInt32)), (.int (((x2.toUInt32 >>> ((16 : Int32) &&& 31).toUInt32).toInt32).toInt8.toInt32))]))
      refine Go.step (fun _ k => XS.i2b XSc.here hx rfl (hb hby at_185) rfl k) ?_
      show Go _ _ _ _ (TSc.setTop (mkF m 186 #[.val (.int x0), .val (.int x1), .val (.int x2), .val (.ref bg), .val (.int (Int32.ofNat n)), .val (.ref b7), .val (.int (1 : Int32)), .val (.int (1 : Int32)), .val (.ref r3), .val (.int (1 : Int32)), .val (.ref r6)] [(.int (((x2.toUInt32 >>> ((16 : Int32) &&& 31).toUInt32).toInt32).toInt8.toInt32)), (.int (((x2.toUInt32 >>> ((16 : Int32) &&& 31).toUInt32).toInt32).toInt8.toInt32))]))
      refine Go.step (fun _ k => XS.icmpNo XSc.here hx rfl (hb hby at_186) rfl (teq rfl).2 k) ?_
      show Go _ _ _ _ (TSc.setTop (mkF m 189 #[.val (.int x0), .val (.int x1), .val (.int x2), .val (.ref bg), .val (.int (Int32.ofNat n)), .val (.ref b7), .val (.int (1 : Int32)), .val (.int (1 : Int32)), .val (.ref r3), .val (.int (1 : Int32)), .val (.ref r6)] []))
      refine Go.step (fun _ k => XS.aload XSc.here hx rfl (hb hby at_189) rfl rfl k) ?_
      show Go _ _ _ _ (TSc.setTop (mkF m 191 #[.val (.int x0), .val (.int x1), .val (.int x2), .val (.ref bg), .val (.int (Int32.ofNat n)), .val (.ref b7), .val (.int (1 : Int32)), .val (.int (1 : Int32)), .val (.ref r3), .val (.int (1 : Int32)), .val (.ref r6)] [(.ref r6)]))
      refine Go.step (fun _ k => XS.iconst XSc.here hx rfl (hb hby at_191) k) ?_
      show Go _ _ _ _ (TSc.setTop (mkF m 192 #[.val (.int x0), .val (.int x1), .val (.int x2), .val (.ref bg), .val (.int (Int32.ofNat n)), .val (.ref b7), .val (.int (1 : Int32)), .val (.int (1 : Int32)), .val (.ref r3), .val (.int (1 : Int32)), .val (.ref r6)] [(.int (2 : Int32)), (.ref r6)]))
      refine Go.step (fun tg k => XSc.baloadBytes hx (j := (2 : Int32)) (v := .int (((x2.toUInt32 >>> ((8 : Int32) &&& 31).toUInt32).toInt32).toInt8.toInt32)) (by rw [eSc]; exact Arzz.1) (State.isArrayOf_alike hZ.alike Arzz.2.1) Arzz.2.2 (own_in (i := 2) (by rw [szz]; decide) (by decide)) (Hzz.at (own_in (i := 2) (by rw [szz]; decide) (by decide)) ((h6 2 (by omega)).trans g52)) (g := (mkF m 192 #[.val (.int x0), .val (.int x1), .val (.int x2), .val (.ref bg), .val (.int (Int32.ofNat n)), .val (.ref b7), .val (.int (1 : Int32)), .val (.int (1 : Int32)), .val (.ref r3), .val (.int (1 : Int32)), .val (.ref r6)] [(.int (2 : Int32)), (.ref r6)])) rfl rfl (hb hby at_192) tg k) ?_
      show Go _ _ _ _ (TSc.setTop (mkF m 193 #[.val (.int x0), .val (.int x1), .val (.int x2), .val (.ref bg), .val (.int (Int32.ofNat n)), .val (.ref b7), .val (.int (1 : Int32)), .val (.int (1 : Int32)), .val (.ref r3), .val (.int (1 : Int32)), .val (.ref r6)] [(.int (((x2.toUInt32 >>> ((8 : Int32) &&& 31).toUInt32).toInt32).toInt8.toInt32))]))
      refine Go.step (fun _ k => XS.iloadN XSc.here hx rfl (hb hby at_193) rfl k) ?_
      show Go _ _ _ _ (TSc.setTop (mkF m 194 #[.val (.int x0), .val (.int x1), .val (.int x2), .val (.ref bg), .val (.int (Int32.ofNat n)), .val (.ref b7), .val (.int (1 : Int32)), .val (.int (1 : Int32)), .val (.ref r3), .val (.int (1 : Int32)), .val (.ref r6)] [(.int x2), (.int (((x2.toUInt32 >>> ((8 : Int32) &&& 31).toUInt32).toInt32).toInt8.toInt32))]))
      refine Go.step (fun _ k => XS.bipush XSc.here hx rfl (hb hby at_194) k) ?_
      show Go _ _ _ _ (TSc.setTop (mkF m 196 #[.val (.int x0), .val (.int x1), .val (.int x2), .val (.ref bg), .val (.int (Int32.ofNat n)), .val (.ref b7), .val (.int (1 : Int32)), .val (.int (1 : Int32)), .val (.ref r3), .val (.int (1 : Int32)), .val (.ref r6)] [(.int (8 : Int32)), (.int x2), (.int (((x2.toUInt32 >>> ((8 : Int32) &&& 31).toUInt32).toInt32).toInt8.toInt32))]))
      refine Go.step (fun _ k => XS.iushr XSc.here hx rfl (hb hby at_196) rfl k) ?_
      show Go _ _ _ _ (TSc.setTop (mkF m 197 #[.val (.int x0), .val (.int x1), .val (.int x2), .val (.ref bg), .val (.int (Int32.ofNat n)), .val (.ref b7), .val (.int (1 : Int32)), .val (.int (1 : Int32)), .val (.ref r3), .val (.int (1 : Int32)), .val (.ref r6)] [(.int ((x2.toUInt32 >>> ((8 : Int32) &&& 31).toUInt32).toInt32)), (.int (((x2.toUInt32 >>> ((8 : Int32) &&& 31).toUInt32).toInt32).toInt8.toInt32))]))
      refine Go.step (fun _ k => XS.i2b XSc.here hx rfl (hb hby at_197) rfl k) ?_
      show Go _ _ _ _ (TSc.setTop (mkF m 198 #[.val (.int x0), .val (.int x1), .val (.int x2), .val (.ref bg), .val (.int (Int32.ofNat n)), .val (.ref b7), .val (.int (1 : Int32)), .val (.int (1 : Int32)), .val (.ref r3), .val (.int (1 : Int32)), .val (.ref r6)] [(.int (((x2.toUInt32 >>> ((8 : Int32) &&& 31).toUInt32).toInt32).toInt8.toInt32)), (.int (((x2.toUInt32 >>> ((8 : Int32) &&& 31).toUInt32).toInt32).toInt8.toInt32))]))
      refine Go.step (fun _ k => XS.icmpNo XSc.here hx rfl (hb hby at_198) rfl (teq rfl).2 k) ?_
      show Go _ _ _ _ (TSc.setTop (mkF m 201 #[.val (.int x0), .val (.int x1), .val (.int x2), .val (.ref bg), .val (.int (Int32.ofNat n)), .val (.ref b7), .val (.int (1 : Int32)), .val (.int (1 : Int32)), .val (.ref r3), .val (.int (1 : Int32)), .val (.ref r6)] []))
      refine Go.step (fun _ k => XS.aload XSc.here hx rfl (hb hby at_201) rfl rfl k) ?_
      show Go _ _ _ _ (TSc.setTop (mkF m 203 #[.val (.int x0), .val (.int x1), .val (.int x2), .val (.ref bg), .val (.int (Int32.ofNat n)), .val (.ref b7), .val (.int (1 : Int32)), .val (.int (1 : Int32)), .val (.ref r3), .val (.int (1 : Int32)), .val (.ref r6)] [(.ref r6)]))
      refine Go.step (fun _ k => XS.iconst XSc.here hx rfl (hb hby at_203) k) ?_
      show Go _ _ _ _ (TSc.setTop (mkF m 204 #[.val (.int x0), .val (.int x1), .val (.int x2), .val (.ref bg), .val (.int (Int32.ofNat n)), .val (.ref b7), .val (.int (1 : Int32)), .val (.int (1 : Int32)), .val (.ref r3), .val (.int (1 : Int32)), .val (.ref r6)] [(.int (3 : Int32)), (.ref r6)]))
      refine Go.step (fun tg k => XSc.baloadBytes hx (j := (3 : Int32)) (v := .int (x2.toInt8.toInt32)) (by rw [eSc]; exact Arzz.1) (State.isArrayOf_alike hZ.alike Arzz.2.1) Arzz.2.2 (own_in (i := 3) (by rw [szz]; decide) (by decide)) (Hzz.at (own_in (i := 3) (by rw [szz]; decide) (by decide)) ((h6 3 (by omega)).trans g53)) (g := (mkF m 204 #[.val (.int x0), .val (.int x1), .val (.int x2), .val (.ref bg), .val (.int (Int32.ofNat n)), .val (.ref b7), .val (.int (1 : Int32)), .val (.int (1 : Int32)), .val (.ref r3), .val (.int (1 : Int32)), .val (.ref r6)] [(.int (3 : Int32)), (.ref r6)])) rfl rfl (hb hby at_204) tg k) ?_
      show Go _ _ _ _ (TSc.setTop (mkF m 205 #[.val (.int x0), .val (.int x1), .val (.int x2), .val (.ref bg), .val (.int (Int32.ofNat n)), .val (.ref b7), .val (.int (1 : Int32)), .val (.int (1 : Int32)), .val (.ref r3), .val (.int (1 : Int32)), .val (.ref r6)] [(.int (x2.toInt8.toInt32))]))
      refine Go.step (fun _ k => XS.iloadN XSc.here hx rfl (hb hby at_205) rfl k) ?_
      show Go _ _ _ _ (TSc.setTop (mkF m 206 #[.val (.int x0), .val (.int x1), .val (.int x2), .val (.ref bg), .val (.int (Int32.ofNat n)), .val (.ref b7), .val (.int (1 : Int32)), .val (.int (1 : Int32)), .val (.ref r3), .val (.int (1 : Int32)), .val (.ref r6)] [(.int x2), (.int (x2.toInt8.toInt32))]))
      refine Go.step (fun _ k => XS.i2b XSc.here hx rfl (hb hby at_206) rfl k) ?_
      show Go _ _ _ _ (TSc.setTop (mkF m 207 #[.val (.int x0), .val (.int x1), .val (.int x2), .val (.ref bg), .val (.int (Int32.ofNat n)), .val (.ref b7), .val (.int (1 : Int32)), .val (.int (1 : Int32)), .val (.ref r3), .val (.int (1 : Int32)), .val (.ref r6)] [(.int (x2.toInt8.toInt32)), (.int (x2.toInt8.toInt32))]))
      refine Go.step (fun _ k => XS.icmpNo XSc.here hx rfl (hb hby at_207) rfl (teq rfl).2 k) ?_
      show Go _ _ _ _ (TSc.setTop (mkF m 210 #[.val (.int x0), .val (.int x1), .val (.int x2), .val (.ref bg), .val (.int (Int32.ofNat n)), .val (.ref b7), .val (.int (1 : Int32)), .val (.int (1 : Int32)), .val (.ref r3), .val (.int (1 : Int32)), .val (.ref r6)] []))
      refine Go.step (fun _ k => XS.iconst XSc.here hx rfl (hb hby at_210) k) ?_
      show Go _ _ _ _ (TSc.setTop (mkF m 211 #[.val (.int x0), .val (.int x1), .val (.int x2), .val (.ref bg), .val (.int (Int32.ofNat n)), .val (.ref b7), .val (.int (1 : Int32)), .val (.int (1 : Int32)), .val (.ref r3), .val (.int (1 : Int32)), .val (.ref r6)] [(.int (1 : Int32))]))
      refine Go.step (fun _ k => XS.goto XSc.here hx rfl (pc0 := 211) (pc' := 215) rfl (hb hby at_211) (by decide) (by decide) k) ?_
      show Go _ _ _ _ (TSc.setTop (mkF m 215 #[.val (.int x0), .val (.int x1), .val (.int x2), .val (.ref bg), .val (.int (Int32.ofNat n)), .val (.ref b7), .val (.int (1 : Int32)), .val (.int (1 : Int32)), .val (.ref r3), .val (.int (1 : Int32)), .val (.ref r6)] [(.int (1 : Int32))]))
      exact leafN XSc hx (t := .boolean) hret (by simp) hlk (w := (1 : Int32)) rfl (hb hby at_215) ⟨rfl, (Fr.app (Fr.app (Fr.app (Fr.app (Fr.app (Fr.app (Fr.nil h0.size) NC) NW) NR) NA) NI) NB)⟩ (by decide) (by decide)
  refine Go.step (fun _ k => XS.iloadN X1.here hx rfl (hb hby at_5) rfl k) ?_
  show Go _ _ _ _ (T1.setTop (mkF m 6 #[.val (.int x0), .val (.int x1), .val (.int x2), .val (.ref bg), .unset, .unset, .unset, .unset, .unset, .unset, .unset] [(.int x1)]))
  refine Go.step (fun _ k => XS.iconst X1.here hx rfl (hb hby at_6) k) ?_
  show Go _ _ _ _ (T1.setTop (mkF m 7 #[.val (.int x0), .val (.int x1), .val (.int x2), .val (.ref bg), .unset, .unset, .unset, .unset, .unset, .unset, .unset] [(.int (1 : Int32)), (.int x1)]))
  refine Go.step (fun _ k => XS.iand X1.here hx rfl (hb hby at_7) rfl k) ?_
  show Go _ _ _ _ (T1.setTop (mkF m 8 #[.val (.int x0), .val (.int x1), .val (.int x2), .val (.ref bg), .unset, .unset, .unset, .unset, .unset, .unset, .unset] [(.int (x1 &&& (1 : Int32)))]))
  by_cases hc10 : (x1 &&& (1 : Int32)) = (0 : Int32)
  · refine Go.step (fun _ k => XS.ifYes X1.here hx rfl (pc0 := 8) (pc' := 22) rfl (hb hby at_8) rfl ((if0 _ _).trans (teq hc10).1) (by decide) (by decide) k) ?_
    show Go _ _ _ _ (T1.setTop (mkF m 22 #[.val (.int x0), .val (.int x1), .val (.int x2), .val (.ref bg), .unset, .unset, .unset, .unset, .unset, .unset, .unset] []))
    refine Go.step (fun _ k => XS.iloadN X1.here hx rfl (hb hby at_22) rfl k) ?_
    show Go _ _ _ _ (T1.setTop (mkF m 23 #[.val (.int x0), .val (.int x1), .val (.int x2), .val (.ref bg), .unset, .unset, .unset, .unset, .unset, .unset, .unset] [(.int x0)]))
    refine Go.step (X1.ldcInt hx hown (mvT hZ (hw _ (List.mem_of_getElem? (i := 81) rfl))) (g := (mkF m 23 #[.val (.int x0), .val (.int x1), .val (.int x2), .val (.ref bg), .unset, .unset, .unset, .unset, .unset, .unset, .unset] [(.int x0)])) rfl (hb hby at_23)) ?_
    show Go _ _ _ _ (T1.setTop (mkF m 25 #[.val (.int x0), .val (.int x1), .val (.int x2), .val (.ref bg), .unset, .unset, .unset, .unset, .unset, .unset, .unset] [(.int (2147483647 : Int32)), (.int x0)]))
    refine Go.step (fun _ k => XS.iand X1.here hx rfl (hb hby at_25) rfl k) ?_
    show Go _ _ _ _ (T1.setTop (mkF m 26 #[.val (.int x0), .val (.int x1), .val (.int x2), .val (.ref bg), .unset, .unset, .unset, .unset, .unset, .unset, .unset] [(.int (x0 &&& (2147483647 : Int32)))]))
    refine Go.step (X1.ldcInt hx hown (mvT hZ (hw _ (List.mem_of_getElem? (i := 82) rfl))) (g := (mkF m 26 #[.val (.int x0), .val (.int x1), .val (.int x2), .val (.ref bg), .unset, .unset, .unset, .unset, .unset, .unset, .unset] [(.int (x0 &&& (2147483647 : Int32)))])) rfl (hb hby at_26)) ?_
    show Go _ _ _ _ (T1.setTop (mkF m 28 #[.val (.int x0), .val (.int x1), .val (.int x2), .val (.ref bg), .unset, .unset, .unset, .unset, .unset, .unset, .unset] [(.int (70001 : Int32)), (.int (x0 &&& (2147483647 : Int32)))]))
    refine Go.step (fun _ k => XS.irem X1.here hx rfl (hb hby at_28) rfl (by decide) k) ?_
    show Go _ _ _ _ (T1.setTop (mkF m 29 #[.val (.int x0), .val (.int x1), .val (.int x2), .val (.ref bg), .unset, .unset, .unset, .unset, .unset, .unset, .unset] [(.int ((x0 &&& (2147483647 : Int32)) - ((x0 &&& (2147483647 : Int32)) / (70001 : Int32)) * (70001 : Int32)))]))
    obtain ⟨n, hn, ne⟩ := own_len2 x0
    rw [ne]
    show Go _ _ _ _ (T1.setTop (mkF m 29 #[.val (.int x0), .val (.int x1), .val (.int x2), .val (.ref bg), .unset, .unset, .unset, .unset, .unset, .unset, .unset] [(.int (Int32.ofNat n))]))
    refine Go.step (fun _ k => XS.istore X1.here hx rfl (hb hby at_29) rfl (l' := #[.val (.int x0), .val (.int x1), .val (.int x2), .val (.ref bg), .val (.int (Int32.ofNat n)), .unset, .unset, .unset, .unset, .unset, .unset]) rfl k) ?_
    show Go _ _ _ _ (T1.setTop (mkF m 31 #[.val (.int x0), .val (.int x1), .val (.int x2), .val (.ref bg), .val (.int (Int32.ofNat n)), .unset, .unset, .unset, .unset, .unset, .unset] []))
    exact tail n hn
  · refine Go.step (fun _ k => XS.ifNo X1.here hx rfl (hb hby at_8) rfl ((if0 _ _).trans (feq hc10).1) k) ?_
    show Go _ _ _ _ (T1.setTop (mkF m 11 #[.val (.int x0), .val (.int x1), .val (.int x2), .val (.ref bg), .unset, .unset, .unset, .unset, .unset, .unset, .unset] []))
    refine Go.step (X1.ldcInt hx hown (mvT hZ (hw _ (List.mem_of_getElem? (i := 2) rfl))) (g := (mkF m 11 #[.val (.int x0), .val (.int x1), .val (.int x2), .val (.ref bg), .unset, .unset, .unset, .unset, .unset, .unset, .unset] [])) rfl (hb hby at_11)) ?_
    show Go _ _ _ _ (T1.setTop (mkF m 13 #[.val (.int x0), .val (.int x1), .val (.int x2), .val (.ref bg), .unset, .unset, .unset, .unset, .unset, .unset, .unset] [(.int (61808 : Int32))]))
    refine Go.step (fun _ k => XS.iloadN X1.here hx rfl (hb hby at_13) rfl k) ?_
    show Go _ _ _ _ (T1.setTop (mkF m 14 #[.val (.int x0), .val (.int x1), .val (.int x2), .val (.ref bg), .unset, .unset, .unset, .unset, .unset, .unset, .unset] [(.int x0), (.int (61808 : Int32))]))
    refine Go.step (fun _ k => XS.sipush X1.here hx rfl (hb hby at_14) k) ?_
    show Go _ _ _ _ (T1.setTop (mkF m 17 #[.val (.int x0), .val (.int x1), .val (.int x2), .val (.ref bg), .unset, .unset, .unset, .unset, .unset, .unset, .unset] [(.int (8191 : Int32)), (.int x0), (.int (61808 : Int32))]))
    refine Go.step (fun _ k => XS.iand X1.here hx rfl (hb hby at_17) rfl k) ?_
    show Go _ _ _ _ (T1.setTop (mkF m 18 #[.val (.int x0), .val (.int x1), .val (.int x2), .val (.ref bg), .unset, .unset, .unset, .unset, .unset, .unset, .unset] [(.int (x0 &&& (8191 : Int32))), (.int (61808 : Int32))]))
    refine Go.step (fun _ k => XS.iadd X1.here hx rfl (hb hby at_18) rfl k) ?_
    show Go _ _ _ _ (T1.setTop (mkF m 19 #[.val (.int x0), .val (.int x1), .val (.int x2), .val (.ref bg), .unset, .unset, .unset, .unset, .unset, .unset, .unset] [(.int ((61808 : Int32) + (x0 &&& (8191 : Int32))))]))
    refine Go.step (fun _ k => XS.goto X1.here hx rfl (pc0 := 19) (pc' := 29) rfl (hb hby at_19) (by decide) (by decide) k) ?_
    show Go _ _ _ _ (T1.setTop (mkF m 29 #[.val (.int x0), .val (.int x1), .val (.int x2), .val (.ref bg), .unset, .unset, .unset, .unset, .unset, .unset, .unset] [(.int ((61808 : Int32) + (x0 &&& (8191 : Int32))))]))
    obtain ⟨n, hn, ne⟩ := own_len1 x0
    rw [ne]
    show Go _ _ _ _ (T1.setTop (mkF m 29 #[.val (.int x0), .val (.int x1), .val (.int x2), .val (.ref bg), .unset, .unset, .unset, .unset, .unset, .unset, .unset] [(.int (Int32.ofNat n))]))
    refine Go.step (fun _ k => XS.istore X1.here hx rfl (hb hby at_29) rfl (l' := #[.val (.int x0), .val (.int x1), .val (.int x2), .val (.ref bg), .val (.int (Int32.ofNat n)), .unset, .unset, .unset, .unset, .unset, .unset]) rfl k) ?_
    show Go _ _ _ _ (T1.setTop (mkF m 31 #[.val (.int x0), .val (.int x1), .val (.int x2), .val (.ref bg), .val (.int (Int32.ofNat n)), .unset, .unset, .unset, .unset, .unset, .unset] []))
    exact tail n hn
set_option maxRecDepth 65536 in
set_option maxHeartbeats 40000000 in
theorem comes_1 {Post : Tables → Env → Array Value → State → Outcome → State → Prop} (hpost : ∀ tb e args s v u, (limb_1_1.after args s (.returned v) u = true ∧ limb_1_2.after args s (.returned v) u = true ∧ True) → FrameEnd s (.returned v) u (Jvm.fieldLocs frame_1_writes args s ++ Jvm.arrayLocs frame_1_arrays args s ++ Jvm.staticLocs frame_1_statics s) 24 168256 → Post tb e args s (.returned v) u) :
    ArmFor flags0 classFile x code maxLocals ret World_1 tables_1 room_1 Calls_1 rest_1 Pre_1 Post := by
  intro l hfl _ _ p e ha hc hk s m args below hf hA hF happ hP
  obtain ⟨hcalls, hrest, hpre⟩ := hP
  obtain ⟨-, -, -, hnamed, -, -, -, hat⟩ := (Spec.applies_iff hf).mp happ
  obtain ⟨hg, hn⟩ := and_e (Cond.before_iff.mp (show (Jvm.Cond.and given_1 narrow_1).before args s = true from hpre))
  obtain ⟨hcount, hg0⟩ := and_e hg
  obtain ⟨ha0, hg1⟩ := and_e hg0
  obtain ⟨ha1, hg2⟩ := and_e hg1
  have ha2 := hg2
  obtain ⟨w0, w1, w2, rfl⟩ : ∃ w0 w1 w2 : Value, args = #[w0, w1, w2] := by
    have hs : args.size = 3 := by simpa [Cond.value, given_1] using hcount
    obtain ⟨L⟩ := args
    match L, hs with
    | [w0, w1, w2], _ => exact ⟨w0, w1, w2, rfl⟩
  have hw := fun d (hd : d ∈ tables_1) => atoms_spec (ws := Jvm.Cond.code x code maxLocals ret :: tables_1) hat d (List.mem_cons_of_mem _ hd)
  obtain ⟨i0, ei0⟩ := is_v ha0
  obtain rfl : w0 = (.int i0) := Option.some.inj ei0
  obtain ⟨i1, ei1⟩ := is_v ha1
  obtain rfl : w1 = (.int i1) := Option.some.inj ei1
  obtain ⟨i2, ei2⟩ := is_v ha2
  obtain rfl : w2 = (.int i2) := Option.some.inj ei2
  obtain ⟨n, o, h1, h2, h3, _, L, rfl, ⟨rfl, N⟩, hq⟩ := rm0 l s _ hw tables_1 i0 i1 i2 s.heap p e ha hc hk s m _ below hf ((Spec.applies_iff_loose hf).mp happ).1 ⟨rfl, State.Warmed39.refl s, rfl⟩ trivial
  refine ⟨n, _, h1, h2, h3, hpost _ _ _ _ _ _ ⟨Cond.after_iff.mpr rfl, Cond.after_iff.mpr (eq_i res_at (Term.int_eval (1)) rfl), trivial⟩ ⟨hq.1, hq.2.1, (hq.2.2.sift fun y hy => Or.inr (N y hy)).mono (by decide) (by decide)⟩⟩
theorem main_1_1 : Claimed_1_1 := comes_1 fun _ _ _ _ _ _ h hF => ⟨h.1, hF⟩
theorem main_1_2 : Claimed_1_2 := comes_1 fun _ _ _ _ _ _ h hF => ⟨h.2.1, hF⟩
end Jvm.Pilot.@@N@@
namespace Jvm.Pilot.@@N@@
open Jvm Jvm.ClassFile Sem Op Lib Jvm.Free Jvm.Stand Jvm.Pilot.@@N@@.Jvm.D
/-! MADE BY PROGRAM (witnessworld.py) out of the Statement's table words and the real class files: 19 classes; the members and pool entries that the words name. The judged class is class 1, her method 1. -/
namespace start1
open Jvm.ClassFile
def u (s : String) : CpInfo := .utf8 (stringToUtf16 s)
/-- a pool by its gaps: so many unusable entries, then the entry; so many at the end -/
def gap : Nat → List CpInfo → List CpInfo
  | 0, r => r
  | n + 1, r => .unusable :: gap n r
def poolList (es : List (Nat × CpInfo)) (last : Nat) : List CpInfo := es.foldr (fun e r => gap e.1 (e.2 :: r)) (gap last [])
def pool (es : List (Nat × CpInfo)) (last : Nat) : Array CpInfo := ⟨poolList es last⟩
def fileOf (pool : Array CpInfo) (this : Nat) (attrs : Array Attribute := #[]) (ms : Array MethodInfo := #[]) (fl : Nat := 33) (sup : Nat := 0) (ifs : Array Nat := #[]) (fds : Array FieldInfo := #[]) : ClassFile where
  minorVersion := 0
  majorVersion := 65
  constantPool := pool
  accessFlags := fl
  thisClass := this
  superClass := sup
  interfaces := ifs
  fields := fds
  methods := ms
  attributes := attrs
def plain (name : String) (sup : Option ClassId) : Class where
  name := name
  kind := .ordinary
  loader := none
  accessFlags := 33
  super := sup
  interfaces := #[]
  cf := none
  fields := #[]
  methods := #[]
  instanceTypes := #[]
  staticTypes := #[]
  resolved := #[]
  callSites := []
  init := .initialized
  statics := none
  mirror := none

def pool0 : Array CpInfo := pool [(5, u "<init>"), (0, u "()V"), (1, .class_ 10), (1, u "java/lang/Object")] 113

def k0c0 : Code := { maxStack := 0, maxLocals := 1, code := object_method_1_code, exceptionTable := #[], attributes := #[] }
def k0m0 : Method := { name := "<init>", desc := "()V", sig := { parameters := [], returnType := none }, accessFlags := 1, code := some k0c0 }
/-- java/lang/Object -/
def k0 : Class := { plain "java/lang/Object" none with
  accessFlags := 33
  interfaces := #[]
  cf := some (fileOf pool0 8 #[] #[{ accessFlags := 1, nameIndex := 5, descriptorIndex := 6, attributes := #[] }] 33 0 #[] #[])
  fields := #[]
  methods := #[k0m0]
  instanceTypes := #[]
  staticTypes := #[]
  resolved := Array.replicate 124 none
  statics := none }

def pool1 : Array CpInfo := pool [(2, .class_ 4), (0, .nameAndType 5 6), (0, u "java/lang/Object"), (0, u "<init>"), (0, u "()V"), (0, .integer 70000), (0, .integer 61808), (0, .integer 2147483647), (0, .integer 70001), (0, .class_ 12), (0, u "com/example/farcall/farcall/MessageBuffer"), (0, .methodref 11 3), (0, .methodref 11 15), (0, .nameAndType 16 17), (0, u "write"), (0, u "([BII)V"), (0, .methodref 11 19), (0, .nameAndType 20 21), (0, u "size"), (0, u "()I"), (0, .methodref 11 23), (0, .nameAndType 24 6), (0, u "reset"), (0, .methodref 11 26), (0, .nameAndType 27 28), (0, u "toByteArray"), (0, u "()[B"), (0, .methodref 11 30), (0, .nameAndType 31 32), (0, u "writeInt"), (0, u "(I)V"), (0, .class_ 34), (0, u "com/example/farcall/farcall/MessageBufferResetPinLaw"), (2, u "law"), (0, u "(III)Z")] 5

def k1m0 : Method := { name := "<init>", desc := "()V", sig := { parameters := [], returnType := none }, accessFlags := 1, code := none }
def k1c1 : Code := { maxStack := 4, maxLocals := 11, code := code, exceptionTable := #[], attributes := #[] }
def k1m1 : Method := { name := "law", desc := "(III)Z", sig := { parameters := [.int, .int, .int], returnType := some .boolean }, accessFlags := 9, code := some k1c1 }
/-- com/example/farcall/farcall/MessageBufferResetPinLaw -/
def k1 : Class := { plain "com/example/farcall/farcall/MessageBufferResetPinLaw" (some 0) with
  accessFlags := 49
  interfaces := #[]
  cf := some (fileOf pool1 33 #[] #[{ accessFlags := 1, nameIndex := 5, descriptorIndex := 6, attributes := #[] }, { accessFlags := 9, nameIndex := 37, descriptorIndex := 38, attributes := #[] }] 49 2 #[] #[])
  fields := #[]
  methods := #[k1m0, k1m1]
  instanceTypes := #[]
  staticTypes := #[]
  resolved := Array.replicate 44 none
  statics := none }

def pool2 : Array CpInfo := pool [(1, .class_ 2), (0, u "java/lang/AutoCloseable"), (0, .class_ 4), (0, u "java/lang/Object")] 7

/-- java/lang/AutoCloseable -/
def k2 : Class := { plain "java/lang/AutoCloseable" (some 0) with
  accessFlags := 1537
  interfaces := #[]
  cf := some (fileOf pool2 1 #[] #[] 1537 3 #[] #[])
  fields := #[]
  methods := #[]
  instanceTypes := #[]
  staticTypes := #[]
  resolved := Array.replicate 12 none
  statics := none }

def pool3 : Array CpInfo := pool [(1, .class_ 2), (0, u "java/io/Closeable"), (0, .class_ 4), (0, u "java/lang/Object"), (0, .class_ 6), (0, u "java/lang/AutoCloseable")] 7

/-- java/io/Closeable -/
def k3 : Class := { plain "java/io/Closeable" (some 0) with
  accessFlags := 1537
  interfaces := #[2]
  cf := some (fileOf pool3 1 #[] #[] 1537 3 #[5] #[])
  fields := #[]
  methods := #[]
  instanceTypes := #[]
  staticTypes := #[]
  resolved := Array.replicate 14 none
  statics := none }

def pool4 : Array CpInfo := pool [(1, .class_ 2), (0, u "java/io/Flushable"), (0, .class_ 4), (0, u "java/lang/Object")] 7

/-- java/io/Flushable -/
def k4 : Class := { plain "java/io/Flushable" (some 0) with
  accessFlags := 1537
  interfaces := #[]
  cf := some (fileOf pool4 1 #[] #[] 1537 3 #[] #[])
  fields := #[]
  methods := #[]
  instanceTypes := #[]
  staticTypes := #[]
  resolved := Array.replicate 12 none
  statics := none }

def pool5 : Array CpInfo := pool [(1, .methodref 2 3), (0, .class_ 4), (0, .nameAndType 5 6), (0, u "java/lang/Object"), (0, u "<init>"), (0, u "()V"), (0, .class_ 8), (0, u "java/io/OutputStream$1"), (2, .class_ 13), (1, u "java/io/OutputStream"), (11, .class_ 26), (0, u "java/io/Closeable"), (0, .class_ 28), (0, u "java/io/Flushable")] 24

def k5c0 : Code := { maxStack := 1, maxLocals := 1, code := jdk_2038_method_1_code, exceptionTable := #[], attributes := #[] }
def k5m0 : Method := { name := "<init>", desc := "()V", sig := { parameters := [], returnType := none }, accessFlags := 1, code := some k5c0 }
/-- java/io/OutputStream -/
def k5 : Class := { plain "java/io/OutputStream" (some 0) with
  accessFlags := 1057
  interfaces := #[3, 4]
  cf := some (fileOf pool5 11 #[.nestMembers #[7]] #[{ accessFlags := 1, nameIndex := 5, descriptorIndex := 6, attributes := #[] }] 1057 2 #[25, 27] #[])
  fields := #[]
  methods := #[k5m0]
  instanceTypes := #[]
  staticTypes := #[]
  resolved := Array.replicate 53 none
  statics := none }

def pool6 : Array CpInfo := pool [(1, .class_ 2), (0, u "java/io/DataOutput"), (0, .class_ 4), (0, u "java/lang/Object")] 25

/-- java/io/DataOutput -/
def k6 : Class := { plain "java/io/DataOutput" (some 0) with
  accessFlags := 1537
  interfaces := #[]
  cf := some (fileOf pool6 1 #[] #[] 1537 3 #[] #[])
  fields := #[]
  methods := #[]
  instanceTypes := #[]
  staticTypes := #[]
  resolved := Array.replicate 30 none
  statics := none }

def pool7 : Array CpInfo := pool [(3, .methodref 4 5), (0, .class_ 6), (0, .nameAndType 7 8), (0, u "java/io/OutputStream"), (0, u "<init>"), (0, u "()V"), (0, .class_ 10), (0, u "com/example/farcall/farcall/MessageBuffer"), (0, .fieldref 9 12), (0, .nameAndType 13 14), (0, u "bytes"), (0, u "[B"), (0, .methodref 9 16), (0, .nameAndType 17 18), (0, u "ensureRoomFor"), (0, u "(I)V"), (0, .fieldref 9 20), (0, .nameAndType 21 22), (0, u "size"), (0, u "I"), (0, .methodref 24 25), (0, .class_ 26), (0, .nameAndType 27 28), (0, u "java/util/Objects"), (0, u "checkFromIndexSize"), (0, u "(III)I"), (0, .methodref 30 31), (0, .class_ 32), (0, .nameAndType 33 34), (0, u "java/lang/System"), (0, u "arraycopy"), (0, u "(Ljava/lang/Object;ILjava/lang/Object;II)V"), (2, u "write"), (5, u "writeInt"), (21, u "()I"), (25, u "([BII)V"), (0, .integer 65536), (5, .methodref 99 100), (0, .class_ 101), (0, .nameAndType 102 103), (0, u "java/util/Arrays"), (0, u "copyOf"), (0, u "([BI)[B"), (0, .integer 2147483639), (5, .long 2), (1, .methodref 113 114), (0, .class_ 115), (0, .nameAndType 116 117), (0, u "java/lang/Math"), (0, u "max"), (0, u "(JJ)J"), (0, .long 2147483639), (1, .methodref 113 121), (0, .nameAndType 122 117), (0, u "min"), (0, .class_ 124), (0, u "java/io/DataOutput"), (0, u "INITIAL_CAPACITY"), (2, u "KEPT_CAPACITY"), (0, u "MAX_CAPACITY"), (15, u "reset"), (9, u "toByteArray"), (0, u "()[B")] 17

def k7c0 : Code := { maxStack := 2, maxLocals := 1, code := prog_51_method_1_code, exceptionTable := #[], attributes := #[] }
def k7m0 : Method := { name := "<init>", desc := "()V", sig := { parameters := [], returnType := none }, accessFlags := 0, code := some k7c0 }
def k7c1 : Code := { maxStack := 5, maxLocals := 4, code := prog_51_method_3_code, exceptionTable := #[], attributes := #[] }
def k7m1 : Method := { name := "write", desc := "([BII)V", sig := { parameters := [(.array .byte), .int, .int], returnType := none }, accessFlags := 1, code := some k7c1 }
def k7c2 : Code := { maxStack := 4, maxLocals := 2, code := prog_51_method_8_code, exceptionTable := #[], attributes := #[] }
def k7m2 : Method := { name := "writeInt", desc := "(I)V", sig := { parameters := [.int], returnType := none }, accessFlags := 1, code := some k7c2 }
def k7c3 : Code := { maxStack := 1, maxLocals := 1, code := prog_51_method_15_code, exceptionTable := #[], attributes := #[] }
def k7m3 : Method := { name := "size", desc := "()I", sig := { parameters := [], returnType := some .int }, accessFlags := 0, code := some k7c3 }
def k7c4 : Code := { maxStack := 2, maxLocals := 1, code := prog_51_method_16_code, exceptionTable := #[], attributes := #[] }
def k7m4 : Method := { name := "reset", desc := "()V", sig := { parameters := [], returnType := none }, accessFlags := 0, code := some k7c4 }
def k7c5 : Code := { maxStack := 2, maxLocals := 1, code := prog_51_method_22_code, exceptionTable := #[], attributes := #[] }
def k7m5 : Method := { name := "toByteArray", desc := "()[B", sig := { parameters := [], returnType := some (.array .byte) }, accessFlags := 0, code := some k7c5 }
def k7c6 : Code := { maxStack := 6, maxLocals := 4, code := prog_51_method_23_code, exceptionTable := #[], attributes := #[] }
def k7m6 : Method := { name := "ensureRoomFor", desc := "(I)V", sig := { parameters := [.int], returnType := none }, accessFlags := 2, code := some k7c6 }
/-- com/example/farcall/farcall/MessageBuffer -/
def k7 : Class := { plain "com/example/farcall/farcall/MessageBuffer" (some 5) with
  accessFlags := 48
  interfaces := #[6]
  cf := some (fileOf pool7 9 #[] #[{ accessFlags := 0, nameIndex := 7, descriptorIndex := 8, attributes := #[] }, { accessFlags := 1, nameIndex := 37, descriptorIndex := 91, attributes := #[] }, { accessFlags := 1, nameIndex := 43, descriptorIndex := 18, attributes := #[] }, { accessFlags := 0, nameIndex := 21, descriptorIndex := 65, attributes := #[] }, { accessFlags := 0, nameIndex := 145, descriptorIndex := 8, attributes := #[] }, { accessFlags := 0, nameIndex := 155, descriptorIndex := 156, attributes := #[] }, { accessFlags := 2, nameIndex := 17, descriptorIndex := 18, attributes := #[] }] 48 4 #[123] #[{ accessFlags := 26, nameIndex := 125, descriptorIndex := 22, attributes := #[] }, { accessFlags := 26, nameIndex := 128, descriptorIndex := 22, attributes := #[] }, { accessFlags := 26, nameIndex := 129, descriptorIndex := 22, attributes := #[] }, { accessFlags := 2, nameIndex := 13, descriptorIndex := 14, attributes := #[] }, { accessFlags := 2, nameIndex := 21, descriptorIndex := 22, attributes := #[] }])
  fields := #[{ name := "INITIAL_CAPACITY", type := .int, accessFlags := 26, slot := 0, constantValue := 0 }, { name := "KEPT_CAPACITY", type := .int, accessFlags := 26, slot := 1, constantValue := 0 }, { name := "MAX_CAPACITY", type := .int, accessFlags := 26, slot := 2, constantValue := 0 }, { name := "bytes", type := (.array .byte), accessFlags := 2, slot := 0, constantValue := 0 }, { name := "size", type := .int, accessFlags := 2, slot := 1, constantValue := 0 }]
  methods := #[k7m0, k7m1, k7m2, k7m3, k7m4, k7m5, k7m6]
  instanceTypes := #[(.array .byte), .int]
  staticTypes := #[.int, .int, .int]
  resolved := Array.replicate 174 none
  statics := none }

def pool8 : Array CpInfo := pool [(2, .class_ 4), (1, u "java/lang/Object"), (0, u "<init>"), (0, u "()V"), (35, .class_ 44), (1, u "java/util/Objects"), (61, .class_ 108), (1, u "jdk/internal/util/Preconditions"), (5, u "(IIILjava/util/function/BiFunction;)I"), (0, .methodref 106 116), (0, .nameAndType 117 114), (0, u "checkFromIndexSize"), (57, u "(III)I")] 8

def k8m0 : Method := { name := "<init>", desc := "()V", sig := { parameters := [], returnType := none }, accessFlags := 2, code := none }
def k8c1 : Code := { maxStack := 4, maxLocals := 3, code := jdk_31_method_19_code, exceptionTable := #[], attributes := #[] }
def k8m1 : Method := { name := "checkFromIndexSize", desc := "(III)I", sig := { parameters := [.int, .int, .int], returnType := some .int }, accessFlags := 9, code := some k8c1 }
/-- java/util/Objects -/
def k8 : Class := { plain "java/util/Objects" (some 0) with
  accessFlags := 49
  interfaces := #[]
  cf := some (fileOf pool8 42 #[] #[{ accessFlags := 2, nameIndex := 5, descriptorIndex := 6, attributes := #[] }, { accessFlags := 9, nameIndex := 117, descriptorIndex := 175, attributes := #[] }] 49 2 #[] #[])
  fields := #[]
  methods := #[k8m0, k8m1]
  instanceTypes := #[]
  staticTypes := #[]
  resolved := Array.replicate 184 none
  statics := none }

def pool9 : Array CpInfo := pool [(2, .class_ 4), (1, u "java/lang/Object"), (0, u "<init>"), (0, u "()V"), (17, .class_ 26), (1, u "jdk/internal/util/Preconditions"), (22, u "checkFromIndexSize"), (5, .class_ 56), (0, u "jdk/internal/util/Preconditions$4"), (57, .class_ 115), (0, u "jdk/internal/util/Preconditions$1"), (7, u "SIOOBE_FORMATTER"), (0, u "Ljava/util/function/BiFunction;"), (0, .class_ 126), (0, u "jdk/internal/util/Preconditions$2"), (3, u "AIOOBE_FORMATTER"), (0, .class_ 132), (0, u "jdk/internal/util/Preconditions$3"), (3, u "IOOBE_FORMATTER"), (46, u "(IIILjava/util/function/BiFunction;)I")] 10

def k9m0 : Method := { name := "<init>", desc := "()V", sig := { parameters := [], returnType := none }, accessFlags := 1, code := none }
def k9c1 : Code := { maxStack := 4, maxLocals := 4, code := jdk_41_method_13_code, exceptionTable := #[], attributes := #[] }
def k9m1 : Method := { name := "checkFromIndexSize", desc := "(IIILjava/util/function/BiFunction;)I", sig := { parameters := [.int, .int, .int, (.object "java/util/function/BiFunction")], returnType := some .int }, accessFlags := 9, code := some k9c1 }
/-- jdk/internal/util/Preconditions -/
def k9 : Class := { plain "jdk/internal/util/Preconditions" (some 0) with
  accessFlags := 33
  interfaces := #[]
  cf := some (fileOf pool9 24 #[.nestMembers #[55, 131, 125, 114]] #[{ accessFlags := 1, nameIndex := 5, descriptorIndex := 6, attributes := #[] }, { accessFlags := 9, nameIndex := 49, descriptorIndex := 183, attributes := #[] }] 33 2 #[] #[{ accessFlags := 25, nameIndex := 123, descriptorIndex := 124, attributes := #[] }, { accessFlags := 25, nameIndex := 130, descriptorIndex := 124, attributes := #[] }, { accessFlags := 25, nameIndex := 136, descriptorIndex := 124, attributes := #[] }])
  fields := #[{ name := "SIOOBE_FORMATTER", type := (.object "java/util/function/BiFunction"), accessFlags := 25, slot := 0, constantValue := 0 }, { name := "AIOOBE_FORMATTER", type := (.object "java/util/function/BiFunction"), accessFlags := 25, slot := 1, constantValue := 0 }, { name := "IOOBE_FORMATTER", type := (.object "java/util/function/BiFunction"), accessFlags := 25, slot := 2, constantValue := 0 }]
  methods := #[k9m0, k9m1]
  instanceTypes := #[]
  staticTypes := #[(.object "java/util/function/BiFunction"), (.object "java/util/function/BiFunction"), (.object "java/util/function/BiFunction")]
  resolved := Array.replicate 194 none
  statics := none }

def pool10 : Array CpInfo := pool [(1, .class_ 2), (0, u "java/lang/Math"), (1, .class_ 6), (1, u "java/lang/Object"), (0, u "<init>"), (0, u "()V"), (89, .class_ 100), (1, u "java/lang/Math$RandomNumberGeneratorHolder"), (20, u "(JJ)J"), (50, u "negativeZeroFloatBits"), (0, u "J"), (2, u "negativeZeroDoubleBits"), (21, u "max"), (2, u "min"), (43, u "$assertionsDisabled"), (0, u "Z"), (88, u "(II)I"), (2, u "twoToTheDoubleScaleDown"), (0, u "D"), (4, u "twoToTheDoubleScaleUp"), (9, u "E"), (3, u "PI"), (2, u "TAU"), (2, u "DEGREES_TO_RADIANS"), (0, u "RADIANS_TO_DEGREES")] 94

def k10m0 : Method := { name := "<init>", desc := "()V", sig := { parameters := [], returnType := none }, accessFlags := 2, code := none }
def k10c1 : Code := { maxStack := 4, maxLocals := 4, code := jdk_29_method_66_code, exceptionTable := #[], attributes := #[] }
def k10m1 : Method := { name := "max", desc := "(JJ)J", sig := { parameters := [.long, .long], returnType := some .long }, accessFlags := 9, code := some k10c1 }
def k10c2 : Code := { maxStack := 2, maxLocals := 2, code := jdk_29_method_69_code, exceptionTable := #[], attributes := #[] }
def k10m2 : Method := { name := "min", desc := "(II)I", sig := { parameters := [.int, .int], returnType := some .int }, accessFlags := 9, code := some k10c2 }
def k10c3 : Code := { maxStack := 4, maxLocals := 4, code := jdk_29_method_70_code, exceptionTable := #[], attributes := #[] }
def k10m3 : Method := { name := "min", desc := "(JJ)J", sig := { parameters := [.long, .long], returnType := some .long }, accessFlags := 9, code := some k10c3 }
/-- java/lang/Math -/
def k10 : Class := { plain "java/lang/Math" (some 0) with
  accessFlags := 49
  interfaces := #[]
  cf := some (fileOf pool10 1 #[.nestMembers #[98]] #[{ accessFlags := 2, nameIndex := 7, descriptorIndex := 8, attributes := #[] }, { accessFlags := 9, nameIndex := 198, descriptorIndex := 121, attributes := #[] }, { accessFlags := 9, nameIndex := 201, descriptorIndex := 335, attributes := #[] }, { accessFlags := 9, nameIndex := 201, descriptorIndex := 121, attributes := #[] }] 49 4 #[] #[{ accessFlags := 25, nameIndex := 354, descriptorIndex := 339, attributes := #[] }, { accessFlags := 25, nameIndex := 358, descriptorIndex := 339, attributes := #[] }, { accessFlags := 25, nameIndex := 361, descriptorIndex := 339, attributes := #[] }, { accessFlags := 26, nameIndex := 364, descriptorIndex := 339, attributes := #[] }, { accessFlags := 26, nameIndex := 365, descriptorIndex := 339, attributes := #[] }, { accessFlags := 26, nameIndex := 172, descriptorIndex := 173, attributes := #[] }, { accessFlags := 26, nameIndex := 176, descriptorIndex := 173, attributes := #[] }, { accessFlags := 8, nameIndex := 344, descriptorIndex := 339, attributes := #[] }, { accessFlags := 8, nameIndex := 338, descriptorIndex := 339, attributes := #[] }, { accessFlags := 4120, nameIndex := 245, descriptorIndex := 246, attributes := #[] }])
  fields := #[{ name := "E", type := .double, accessFlags := 25, slot := 0, constantValue := 0 }, { name := "PI", type := .double, accessFlags := 25, slot := 1, constantValue := 0 }, { name := "TAU", type := .double, accessFlags := 25, slot := 2, constantValue := 0 }, { name := "DEGREES_TO_RADIANS", type := .double, accessFlags := 26, slot := 3, constantValue := 0 }, { name := "RADIANS_TO_DEGREES", type := .double, accessFlags := 26, slot := 4, constantValue := 0 }, { name := "negativeZeroFloatBits", type := .long, accessFlags := 26, slot := 5, constantValue := 0 }, { name := "negativeZeroDoubleBits", type := .long, accessFlags := 26, slot := 6, constantValue := 0 }, { name := "twoToTheDoubleScaleUp", type := .double, accessFlags := 8, slot := 7, constantValue := 0 }, { name := "twoToTheDoubleScaleDown", type := .double, accessFlags := 8, slot := 8, constantValue := 0 }, { name := "$assertionsDisabled", type := .boolean, accessFlags := 4120, slot := 9, constantValue := 0 }]
  methods := #[k10m0, k10m1, k10m2, k10m3]
  instanceTypes := #[]
  staticTypes := #[.double, .double, .double, .double, .double, .long, .long, .double, .double, .boolean]
  resolved := Array.replicate 460 none
  statics := none }

def pool11 : Array CpInfo := pool [(2, .class_ 4), (1, u "java/lang/Object"), (0, u "<init>"), (0, u "()V"), (7, .class_ 16), (1, u "java/util/Arrays"), (57, .class_ 76), (1, u "java/util/Arrays$NaturalOrder"), (36, .class_ 115), (1, u "java/util/Arrays$LegacyMergeSort"), (1, u "Z"), (32, .methodref 151 152), (0, .class_ 153), (0, .nameAndType 154 155), (0, u "java/lang/System"), (0, u "arraycopy"), (0, u "(Ljava/lang/Object;ILjava/lang/Object;II)V"), (146, u "copyOf"), (1, .methodref 305 306), (0, .class_ 307), (0, .nameAndType 308 309), (0, u "java/lang/Math"), (0, u "min"), (0, u "(II)I"), (65, .class_ 376), (0, u "java/util/Arrays$ArrayList"), (68, u "$assertionsDisabled"), (269, u "MIN_ARRAY_SORT_GRAN"), (0, u "I"), (2, u "INSERTIONSORT_THRESHOLD"), (149, u "([BI)[B"), (105, .class_ 976), (0, u "java/util/Arrays$ArrayItr")] 52

def k11m0 : Method := { name := "<init>", desc := "()V", sig := { parameters := [], returnType := none }, accessFlags := 2, code := none }
def k11c1 : Code := { maxStack := 6, maxLocals := 3, code := jdk_65_method_121_code, exceptionTable := #[], attributes := #[] }
def k11m1 : Method := { name := "copyOf", desc := "([BI)[B", sig := { parameters := [(.array .byte), .int], returnType := some (.array .byte) }, accessFlags := 9, code := some k11c1 }
/-- java/util/Arrays -/
def k11 : Class := { plain "java/util/Arrays" (some 0) with
  accessFlags := 49
  interfaces := #[]
  cf := some (fileOf pool11 14 #[.nestMembers #[975, 375, 113, 74]] #[{ accessFlags := 2, nameIndex := 5, descriptorIndex := 6, attributes := #[] }, { accessFlags := 9, nameIndex := 302, descriptorIndex := 869, attributes := #[] }] 49 2 #[] #[{ accessFlags := 26, nameIndex := 715, descriptorIndex := 716, attributes := #[] }, { accessFlags := 26, nameIndex := 719, descriptorIndex := 716, attributes := #[] }, { accessFlags := 4120, nameIndex := 445, descriptorIndex := 117, attributes := #[] }])
  fields := #[{ name := "MIN_ARRAY_SORT_GRAN", type := .int, accessFlags := 26, slot := 0, constantValue := 0 }, { name := "INSERTIONSORT_THRESHOLD", type := .int, accessFlags := 26, slot := 1, constantValue := 0 }, { name := "$assertionsDisabled", type := .boolean, accessFlags := 4120, slot := 2, constantValue := 0 }]
  methods := #[k11m0, k11m1]
  instanceTypes := #[]
  staticTypes := #[.int, .int, .boolean]
  resolved := Array.replicate 1029 none
  statics := none }

def pool12 : Array CpInfo := pool [(2, .class_ 4), (1, u "java/lang/Object"), (0, u "<init>"), (0, u "()V"), (1, .class_ 10), (1, u "java/lang/System"), (0, u "allowSecurityManager"), (0, u "I"), (16, u "cons"), (0, u "Ljava/io/Console;"), (77, .class_ 110), (1, u "java/lang/System$CallersHolder"), (43, u "initialErrStream"), (0, u "Ljava/io/PrintStream;"), (19, u "security"), (0, u "Ljava/lang/SecurityManager;"), (31, .class_ 209), (0, u "java/lang/System$1"), (7, u "props"), (0, u "Ljava/util/Properties;"), (2, u "lineSeparator"), (0, u "Ljava/lang/String;"), (96, .class_ 321), (1, u "java/lang/System$LoggerFinder"), (5, .class_ 328), (0, u "java/lang/System$Logger"), (67, u "err"), (2, u "out"), (91, u "notSupportedJnuEncoding"), (15, u "in"), (17, u "initialIn"), (0, u "Ljava/io/InputStream;"), (35, u "bootLayer"), (0, u "Ljava/lang/ModuleLayer;"), (99, .class_ 664), (0, u "java/lang/System$2"), (9, u "NEVER"), (2, u "MAYBE"), (49, u "arraycopy"), (0, u "(Ljava/lang/Object;ILjava/lang/Object;II)V"), (72, .class_ 802), (0, u "java/lang/System$Logger$Level")] 31

def k12m0 : Method := { name := "<init>", desc := "()V", sig := { parameters := [], returnType := none }, accessFlags := 2, code := none }
def k12m1 : Method := { name := "arraycopy", desc := "(Ljava/lang/Object;ILjava/lang/Object;II)V", sig := { parameters := [(.object "java/lang/Object"), .int, (.object "java/lang/Object"), .int, .int], returnType := none }, accessFlags := 265, code := none }
/-- java/lang/System -/
def k12 : Class := { plain "java/lang/System" (some 0) with
  accessFlags := 49
  interfaces := #[]
  cf := some (fileOf pool12 8 #[.nestMembers #[319, 327, 801, 108, 663, 208]] #[{ accessFlags := 2, nameIndex := 5, descriptorIndex := 6, attributes := #[] }, { accessFlags := 265, nameIndex := 727, descriptorIndex := 728, attributes := #[] }] 49 2 #[] #[{ accessFlags := 25, nameIndex := 507, descriptorIndex := 526, attributes := #[] }, { accessFlags := 25, nameIndex := 399, descriptorIndex := 155, attributes := #[] }, { accessFlags := 25, nameIndex := 396, descriptorIndex := 155, attributes := #[] }, { accessFlags := 10, nameIndex := 525, descriptorIndex := 526, attributes := #[] }, { accessFlags := 26, nameIndex := 674, descriptorIndex := 12, attributes := #[] }, { accessFlags := 26, nameIndex := 677, descriptorIndex := 12, attributes := #[] }, { accessFlags := 10, nameIndex := 11, descriptorIndex := 12, attributes := #[] }, { accessFlags := 74, nameIndex := 175, descriptorIndex := 176, attributes := #[] }, { accessFlags := 10, nameIndex := 491, descriptorIndex := 222, attributes := #[] }, { accessFlags := 74, nameIndex := 29, descriptorIndex := 30, attributes := #[] }, { accessFlags := 74, nameIndex := 154, descriptorIndex := 155, attributes := #[] }, { accessFlags := 10, nameIndex := 217, descriptorIndex := 218, attributes := #[] }, { accessFlags := 10, nameIndex := 221, descriptorIndex := 222, attributes := #[] }, { accessFlags := 8, nameIndex := 562, descriptorIndex := 563, attributes := #[] }])
  fields := #[{ name := "in", type := (.object "java/io/InputStream"), accessFlags := 25, slot := 0, constantValue := 0 }, { name := "out", type := (.object "java/io/PrintStream"), accessFlags := 25, slot := 1, constantValue := 0 }, { name := "err", type := (.object "java/io/PrintStream"), accessFlags := 25, slot := 2, constantValue := 0 }, { name := "initialIn", type := (.object "java/io/InputStream"), accessFlags := 10, slot := 3, constantValue := 0 }, { name := "NEVER", type := .int, accessFlags := 26, slot := 4, constantValue := 0 }, { name := "MAYBE", type := .int, accessFlags := 26, slot := 5, constantValue := 0 }, { name := "allowSecurityManager", type := .int, accessFlags := 10, slot := 6, constantValue := 0 }, { name := "security", type := (.object "java/lang/SecurityManager"), accessFlags := 74, slot := 7, constantValue := 0 }, { name := "notSupportedJnuEncoding", type := (.object "java/lang/String"), accessFlags := 10, slot := 8, constantValue := 0 }, { name := "cons", type := (.object "java/io/Console"), accessFlags := 74, slot := 9, constantValue := 0 }, { name := "initialErrStream", type := (.object "java/io/PrintStream"), accessFlags := 74, slot := 10, constantValue := 0 }, { name := "props", type := (.object "java/util/Properties"), accessFlags := 10, slot := 11, constantValue := 0 }, { name := "lineSeparator", type := (.object "java/lang/String"), accessFlags := 10, slot := 12, constantValue := 0 }, { name := "bootLayer", type := (.object "java/lang/ModuleLayer"), accessFlags := 8, slot := 13, constantValue := 0 }]
  methods := #[k12m0, k12m1]
  instanceTypes := #[]
  staticTypes := #[(.object "java/io/InputStream"), (.object "java/io/PrintStream"), (.object "java/io/PrintStream"), (.object "java/io/InputStream"), .int, .int, .int, (.object "java/lang/SecurityManager"), (.object "java/lang/String"), (.object "java/io/Console"), (.object "java/io/PrintStream"), (.object "java/util/Properties"), (.object "java/lang/String"), (.object "java/lang/ModuleLayer")]
  resolved := Array.replicate 834 none
  statics := none }

def pool13 : Array CpInfo := pool [(1, u "java/lang/Cloneable"), (0, .class_ 1), (0, u "java/lang/Object"), (0, .class_ 3)] 3

/-- java/lang/Cloneable -/
def k13 : Class := { plain "java/lang/Cloneable" (some 0) with
  accessFlags := 1537
  interfaces := #[]
  cf := some (fileOf pool13 2 #[] #[] 1537 4 #[] #[])
  fields := #[]
  methods := #[]
  instanceTypes := #[]
  staticTypes := #[]
  resolved := Array.replicate 8 none
  statics := none }

def pool14 : Array CpInfo := pool [(1, u "java/io/Serializable"), (0, .class_ 1), (0, u "java/lang/Object"), (0, .class_ 3)] 3

/-- java/io/Serializable -/
def k14 : Class := { plain "java/io/Serializable" (some 0) with
  accessFlags := 1537
  interfaces := #[]
  cf := some (fileOf pool14 2 #[] #[] 1537 4 #[] #[])
  fields := #[]
  methods := #[]
  instanceTypes := #[]
  staticTypes := #[]
  resolved := Array.replicate 8 none
  statics := none }

/-- the primitive byte -/
def k15 : Class := { plain "byte" none with kind := .primitive 'B', accessFlags := 0x411 }
/-- [B -/
def k16 : Class := { plain "[B" (some 0) with kind := .array 15 .byte, interfaces := #[13, 14], accessFlags := 1041 }

/-- the primitive int -/
def k17 : Class := { plain "int" none with kind := .primitive 'I', accessFlags := 0x411 }
/-- [I -/
def k18 : Class := { plain "[I" (some 0) with kind := .array 17 .int, interfaces := #[13, 14], accessFlags := 1041 }

def heap : Heap := #[]
def classes : Array Class := #[k0, k1, k2, k3, k4, k5, k6, k7, k8, k9, k10, k11, k12, k13, k14, k15, k16, k17, k18]
def interned : List (Array UInt16 × Addr) := []
def slotsUsed : Nat := 0
def theMethod : MethodId := ⟨1, 1⟩
def args0 : Array Value := #[.int 5, .int 6, .int 7]
def aboutOver (below : List Frame) : State where
  vm := { classes := classes, interned := interned.toArray }
  heap := heap
  slotsUsed := slotsUsed
  threads := #[{ frames := .invoking theMethod args0 :: below }]
def below0 : List Frame := [.native { method := ⟨0, 0⟩, args := #[] }]
def about1 : State := aboutOver below0
def p0 : Program := .bare "" "" ""
def e0 : Env := launch0.env 0 0 0
theorem w_frames : about1.frames = Frame.invoking theMethod args0 :: below0 := rfl
set_option maxRecDepth 65536 in
theorem w_args : argsFit about1.vm theMethod args0 = true := by decide +kernel
set_option maxRecDepth 65536 in
theorem w_heap : heapFits about1 = true := by decide +kernel
set_option maxRecDepth 65536 in
theorem w_runnable : about1.curStatus? = some .runnable := by decide +kernel
set_option maxRecDepth 65536 in
theorem w_alone : about1.alone = true := by decide +kernel
set_option maxRecDepth 65536 in
theorem w_named : about1.methodNamed? x = some theMethod := by decide +kernel
set_option maxRecDepth 65536 in
theorem w_hears : about1.hears theMethod below0 = true := by decide +kernel
set_option maxRecDepth 65536 in
theorem w_ripe : about1.ripe theMethod args0 below0 = true := by decide +kernel
theorem w_running : about1.status = .running := rfl
set_option maxRecDepth 65536 in
theorem w_room : about1.hasRoom e0.platform room_1 = true :=
  launch0.hasRoom_least _ room_1 (by decide +kernel) (by decide +kernel) (by decide +kernel) (by decide +kernel) (by decide +kernel) (by decide +kernel)
theorem allAtoms_all (ts : List Jvm.Cond) (a : Array Jvm.Value) (st : Jvm.State) : (allAtoms ts).before a st = ts.all (fun c => c.before a st) := by
  induction ts with
  | nil => rfl
  | cons c t ih =>
    show (Jvm.Cond.and c (allAtoms t)).before a st = _
    rw [Jvm.Cond.before_and, ih, List.all_cons]
def words1 : List Jvm.Cond := Jvm.Cond.code x code maxLocals ret :: tables_1
/-- a 'code' word, met by the world's own term for the bytes: nothing is compared byte by byte -/
theorem code_word {y : MethodName} {bytes : ByteArray} {mx : Nat} {rt : Option FieldType} {a : Array Value} {s : State} {m : MethodId} {meth : Method} {c : Code} (h1 : s.methodNamed? y = some m) (h2 : s.vm.method? m = some meth) (h3 : meth.code = some c) (h4 : c.code = bytes)
    (h5 : (c.maxLocals == mx && c.exceptionTable.isEmpty && decide (c.maxStack ≤ mostOperands) && decide (meth.sig.returnType = rt) && !meth.locks && decide (parseMethodDescriptor y.desc = some meth.sig)) = true) : (Jvm.Cond.code y bytes mx rt).before a s = true := by
  simp only [Bool.and_eq_true, beq_iff_eq, Bool.not_eq_true', decide_eq_true_eq] at h5
  obtain ⟨⟨⟨⟨⟨g1, g2⟩, g3⟩, g4⟩, g5⟩, g6⟩ := h5
  simp [Cond.before, Cond.holds, Cond.value, h1, h2, h3, h4, g1, g2, g3, g4, g5, g6]
def isCode : Jvm.Cond → Bool
  | .code _ _ _ _ => true
  | _ => false
theorem all_split {L : List Jvm.Cond} {P : Jvm.Cond → Bool} (h1 : L.all (fun c => isCode c || P c) = true) (h2 : ∀ c ∈ L.filter isCode, P c = true) : L.all P = true := by
  refine List.all_eq_true.mpr fun c hc => ?_
  have h := List.all_eq_true.mp h1 c hc
  rcases Bool.eq_false_or_eq_true (isCode c) with hi | hi
  · exact h2 c (List.mem_filter.mpr ⟨hc, hi⟩)
  · simpa [hi] using h
set_option maxRecDepth 65536 in
theorem w_c0 : (Jvm.Cond.code x code maxLocals ret).before args0 about1 = true := code_word (m := ⟨1, 1⟩) (meth := k1m1) (c := k1c1) (by decide +kernel) rfl rfl rfl (by decide +kernel)
set_option maxRecDepth 65536 in
theorem w_c1 : (Jvm.Cond.code ({ cls := "com/example/farcall/farcall/MessageBuffer", name := "<init>", desc := "()V" } : Jvm.MethodName) prog_51_method_1_code (1 : Nat) (Option.none : Option Jvm.ClassFile.FieldType)).before args0 about1 = true := code_word (m := ⟨7, 0⟩) (meth := k7m0) (c := k7c0) (by decide +kernel) rfl rfl rfl (by decide +kernel)
set_option maxRecDepth 65536 in
theorem w_c2 : (Jvm.Cond.code ({ cls := "java/io/OutputStream", name := "<init>", desc := "()V" } : Jvm.MethodName) jdk_2038_method_1_code (1 : Nat) (Option.none : Option Jvm.ClassFile.FieldType)).before args0 about1 = true := code_word (m := ⟨5, 0⟩) (meth := k5m0) (c := k5c0) (by decide +kernel) rfl rfl rfl (by decide +kernel)
set_option maxRecDepth 65536 in
theorem w_c3 : (Jvm.Cond.code ({ cls := "java/lang/Object", name := "<init>", desc := "()V" } : Jvm.MethodName) object_method_1_code (1 : Nat) (Option.none : Option Jvm.ClassFile.FieldType)).before args0 about1 = true := code_word (m := ⟨0, 0⟩) (meth := k0m0) (c := k0c0) (by decide +kernel) rfl rfl rfl (by decide +kernel)
set_option maxRecDepth 65536 in
theorem w_c4 : (Jvm.Cond.code ({ cls := "com/example/farcall/farcall/MessageBuffer", name := "write", desc := "([BII)V" } : Jvm.MethodName) prog_51_method_3_code (4 : Nat) (Option.none : Option Jvm.ClassFile.FieldType)).before args0 about1 = true := code_word (m := ⟨7, 1⟩) (meth := k7m1) (c := k7c1) (by decide +kernel) rfl rfl rfl (by decide +kernel)
set_option maxRecDepth 65536 in
theorem w_c5 : (Jvm.Cond.code ({ cls := "java/util/Objects", name := "checkFromIndexSize", desc := "(III)I" } : Jvm.MethodName) jdk_31_method_19_code (3 : Nat) (Option.some Jvm.ClassFile.FieldType.int)).before args0 about1 = true := code_word (m := ⟨8, 1⟩) (meth := k8m1) (c := k8c1) (by decide +kernel) rfl rfl rfl (by decide +kernel)
set_option maxRecDepth 65536 in
theorem w_c6 : (Jvm.Cond.code ({ cls := "jdk/internal/util/Preconditions", name := "checkFromIndexSize", desc := "(IIILjava/util/function/BiFunction;)I" } : Jvm.MethodName) jdk_41_method_13_code (4 : Nat) (Option.some Jvm.ClassFile.FieldType.int)).before args0 about1 = true := code_word (m := ⟨9, 1⟩) (meth := k9m1) (c := k9c1) (by decide +kernel) rfl rfl rfl (by decide +kernel)
set_option maxRecDepth 65536 in
theorem w_c7 : (Jvm.Cond.code ({ cls := "com/example/farcall/farcall/MessageBuffer", name := "ensureRoomFor", desc := "(I)V" } : Jvm.MethodName) prog_51_method_23_code (4 : Nat) (Option.none : Option Jvm.ClassFile.FieldType)).before args0 about1 = true := code_word (m := ⟨7, 6⟩) (meth := k7m6) (c := k7c6) (by decide +kernel) rfl rfl rfl (by decide +kernel)
set_option maxRecDepth 65536 in
theorem w_c8 : (Jvm.Cond.code ({ cls := "java/lang/Math", name := "max", desc := "(JJ)J" } : Jvm.MethodName) jdk_29_method_66_code (4 : Nat) (Option.some Jvm.ClassFile.FieldType.long)).before args0 about1 = true := code_word (m := ⟨10, 1⟩) (meth := k10m1) (c := k10c1) (by decide +kernel) rfl rfl rfl (by decide +kernel)
set_option maxRecDepth 65536 in
theorem w_c9 : (Jvm.Cond.code ({ cls := "java/lang/Math", name := "min", desc := "(JJ)J" } : Jvm.MethodName) jdk_29_method_70_code (4 : Nat) (Option.some Jvm.ClassFile.FieldType.long)).before args0 about1 = true := code_word (m := ⟨10, 3⟩) (meth := k10m3) (c := k10c3) (by decide +kernel) rfl rfl rfl (by decide +kernel)
set_option maxRecDepth 65536 in
theorem w_c10 : (Jvm.Cond.code ({ cls := "java/util/Arrays", name := "copyOf", desc := "([BI)[B" } : Jvm.MethodName) jdk_65_method_121_code (3 : Nat) (Option.some (Jvm.ClassFile.FieldType.array Jvm.ClassFile.FieldType.byte))).before args0 about1 = true := code_word (m := ⟨11, 1⟩) (meth := k11m1) (c := k11c1) (by decide +kernel) rfl rfl rfl (by decide +kernel)
set_option maxRecDepth 65536 in
theorem w_c11 : (Jvm.Cond.code ({ cls := "java/lang/Math", name := "min", desc := "(II)I" } : Jvm.MethodName) jdk_29_method_69_code (2 : Nat) (Option.some Jvm.ClassFile.FieldType.int)).before args0 about1 = true := code_word (m := ⟨10, 2⟩) (meth := k10m2) (c := k10c2) (by decide +kernel) rfl rfl rfl (by decide +kernel)
set_option maxRecDepth 65536 in
theorem w_c12 : (Jvm.Cond.code ({ cls := "com/example/farcall/farcall/MessageBuffer", name := "size", desc := "()I" } : Jvm.MethodName) prog_51_method_15_code (1 : Nat) (Option.some Jvm.ClassFile.FieldType.int)).before args0 about1 = true := code_word (m := ⟨7, 3⟩) (meth := k7m3) (c := k7c3) (by decide +kernel) rfl rfl rfl (by decide +kernel)
set_option maxRecDepth 65536 in
theorem w_c13 : (Jvm.Cond.code ({ cls := "com/example/farcall/farcall/MessageBuffer", name := "reset", desc := "()V" } : Jvm.MethodName) prog_51_method_16_code (1 : Nat) (Option.none : Option Jvm.ClassFile.FieldType)).before args0 about1 = true := code_word (m := ⟨7, 4⟩) (meth := k7m4) (c := k7c4) (by decide +kernel) rfl rfl rfl (by decide +kernel)
set_option maxRecDepth 65536 in
theorem w_c14 : (Jvm.Cond.code ({ cls := "com/example/farcall/farcall/MessageBuffer", name := "toByteArray", desc := "()[B" } : Jvm.MethodName) prog_51_method_22_code (1 : Nat) (Option.some (Jvm.ClassFile.FieldType.array Jvm.ClassFile.FieldType.byte))).before args0 about1 = true := code_word (m := ⟨7, 5⟩) (meth := k7m5) (c := k7c5) (by decide +kernel) rfl rfl rfl (by decide +kernel)
set_option maxRecDepth 65536 in
theorem w_c15 : (Jvm.Cond.code ({ cls := "com/example/farcall/farcall/MessageBuffer", name := "writeInt", desc := "(I)V" } : Jvm.MethodName) prog_51_method_8_code (2 : Nat) (Option.none : Option Jvm.ClassFile.FieldType)).before args0 about1 = true := code_word (m := ⟨7, 2⟩) (meth := k7m2) (c := k7c2) (by decide +kernel) rfl rfl rfl (by decide +kernel)
def codes1 : List Jvm.Cond := [Jvm.Cond.code x code maxLocals ret, Jvm.Cond.code ({ cls := "com/example/farcall/farcall/MessageBuffer", name := "<init>", desc := "()V" } : Jvm.MethodName) prog_51_method_1_code (1 : Nat) (Option.none : Option Jvm.ClassFile.FieldType), Jvm.Cond.code ({ cls := "java/io/OutputStream", name := "<init>", desc := "()V" } : Jvm.MethodName) jdk_2038_method_1_code (1 : Nat) (Option.none : Option Jvm.ClassFile.FieldType), Jvm.Cond.code ({ cls := "java/lang/Object", name := "<init>", desc := "()V" } : Jvm.MethodName) object_method_1_code (1 : Nat) (Option.none : Option Jvm.ClassFile.FieldType), Jvm.Cond.code ({ cls := "com/example/farcall/farcall/MessageBuffer", name := "write", desc := "([BII)V" } : Jvm.MethodName) prog_51_method_3_code (4 : Nat) (Option.none : Option Jvm.ClassFile.FieldType), Jvm.Cond.code ({ cls := "java/util/Objects", name := "checkFromIndexSize", desc := "(III)I" } : Jvm.MethodName) jdk_31_method_19_code (3 : Nat) (Option.some Jvm.ClassFile.FieldType.int), Jvm.Cond.code ({ cls := "jdk/internal/util/Preconditions", name := "checkFromIndexSize", desc := "(IIILjava/util/function/BiFunction;)I" } : Jvm.MethodName) jdk_41_method_13_code (4 : Nat) (Option.some Jvm.ClassFile.FieldType.int), Jvm.Cond.code ({ cls := "com/example/farcall/farcall/MessageBuffer", name := "ensureRoomFor", desc := "(I)V" } : Jvm.MethodName) prog_51_method_23_code (4 : Nat) (Option.none : Option Jvm.ClassFile.FieldType), Jvm.Cond.code ({ cls := "java/lang/Math", name := "max", desc := "(JJ)J" } : Jvm.MethodName) jdk_29_method_66_code (4 : Nat) (Option.some Jvm.ClassFile.FieldType.long), Jvm.Cond.code ({ cls := "java/lang/Math", name := "min", desc := "(JJ)J" } : Jvm.MethodName) jdk_29_method_70_code (4 : Nat) (Option.some Jvm.ClassFile.FieldType.long), Jvm.Cond.code ({ cls := "java/util/Arrays", name := "copyOf", desc := "([BI)[B" } : Jvm.MethodName) jdk_65_method_121_code (3 : Nat) (Option.some (Jvm.ClassFile.FieldType.array Jvm.ClassFile.FieldType.byte)), Jvm.Cond.code ({ cls := "java/lang/Math", name := "min", desc := "(II)I" } : Jvm.MethodName) jdk_29_method_69_code (2 : Nat) (Option.some Jvm.ClassFile.FieldType.int), Jvm.Cond.code ({ cls := "com/example/farcall/farcall/MessageBuffer", name := "size", desc := "()I" } : Jvm.MethodName) prog_51_method_15_code (1 : Nat) (Option.some Jvm.ClassFile.FieldType.int), Jvm.Cond.code ({ cls := "com/example/farcall/farcall/MessageBuffer", name := "reset", desc := "()V" } : Jvm.MethodName) prog_51_method_16_code (1 : Nat) (Option.none : Option Jvm.ClassFile.FieldType), Jvm.Cond.code ({ cls := "com/example/farcall/farcall/MessageBuffer", name := "toByteArray", desc := "()[B" } : Jvm.MethodName) prog_51_method_22_code (1 : Nat) (Option.some (Jvm.ClassFile.FieldType.array Jvm.ClassFile.FieldType.byte)), Jvm.Cond.code ({ cls := "com/example/farcall/farcall/MessageBuffer", name := "writeInt", desc := "(I)V" } : Jvm.MethodName) prog_51_method_8_code (2 : Nat) (Option.none : Option Jvm.ClassFile.FieldType)]
set_option maxRecDepth 65536 in
theorem codes_eq : words1.filter isCode = codes1 := rfl
theorem w_codes : ∀ c ∈ words1.filter isCode, c.before args0 about1 = true := by
  rw [codes_eq]
  intro c hc
  simp only [codes1, List.mem_cons, List.not_mem_nil, or_false] at hc
  rcases hc with rfl | rfl | rfl | rfl | rfl | rfl | rfl | rfl | rfl | rfl | rfl | rfl | rfl | rfl | rfl | rfl
  · exact w_c0
  · exact w_c1
  · exact w_c2
  · exact w_c3
  · exact w_c4
  · exact w_c5
  · exact w_c6
  · exact w_c7
  · exact w_c8
  · exact w_c9
  · exact w_c10
  · exact w_c11
  · exact w_c12
  · exact w_c13
  · exact w_c14
  · exact w_c15
set_option maxRecDepth 65536 in
theorem w_t1 : (words1.take 24).all (fun c => isCode c || c.before args0 about1) = true := by decide +kernel
set_option maxRecDepth 65536 in
theorem w_t2 : ((words1.drop 24).take 24).all (fun c => isCode c || c.before args0 about1) = true := by decide +kernel
set_option maxRecDepth 65536 in
theorem w_t3 : (((words1.drop 24).drop 24).take 24).all (fun c => isCode c || c.before args0 about1) = true := by decide +kernel
set_option maxRecDepth 65536 in
theorem w_t4 : (((words1.drop 24).drop 24).drop 24).all (fun c => isCode c || c.before args0 about1) = true := by decide +kernel
theorem w_tables : (allAtoms (Jvm.Cond.code x code maxLocals ret :: tables_1)).before args0 about1 = true := by
  rw [allAtoms_all]
  show words1.all (fun c => c.before args0 about1) = true
  refine all_split ?_ w_codes
  rw [← List.take_append_drop 24 words1, List.all_append, w_t1, ← List.take_append_drop 24 (words1.drop 24), List.all_append, w_t2, ← List.take_append_drop 24 ((words1.drop 24).drop 24), List.all_append, w_t3, w_t4]
  rfl
set_option maxRecDepth 65536 in
theorem w_case : (Jvm.Cond.and given_1 narrow_1).before args0 about1 = true := by decide +kernel
theorem w_applies : (headSpec (Jvm.Cond.code x code maxLocals ret :: tables_1) room_1).applies x e0.platform about1 = true :=
  (Spec.applies_iff w_frames).mpr ⟨w_running, w_runnable, w_alone, w_named, w_hears, w_ripe, w_room, w_tables⟩
theorem atStart : AtStart classFile x code maxLocals ret World_1 tables_1 room_1 Calls_1 rest_1 Pre_1 launch0 p0 e0 about1 theMethod args0 below0 :=
  ⟨lists_1, trivial, launch0.admits_env _ _ _, launch0.least_env, fairChoices_fair.cas, fairChoices_fair.clock, w_frames, w_args, w_heap, w_applies, trivial, trivial, w_case⟩
end start1
theorem witness_1 : WitnessClaimed_1 := ⟨start1.p0, start1.e0, start1.about1, start1.theMethod, start1.args0, start1.below0, start1.atStart⟩
end Jvm.Pilot.@@N@@
