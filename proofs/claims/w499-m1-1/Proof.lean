import JvmDerived
import JvmDerived.Pilot.@@N@@Statement
import JvmDerived.Pilot.@@N@@Code
set_option linter.unusedVariables false
set_option linter.unusedSimpArgs false
namespace Jvm.Pilot.@@N@@
open Jvm Jvm.ClassFile Sem Op Lib Jvm.Free Jvm.Stand Jvm.LawKit Jvm.RoadKit Bundle Jvm.Pilot.@@N@@.Jvm.D
/-! own_kit: a walk as 'what is left to do' (Go), contracts (Con), calls and returns in that form -/
/-- from F the run comes to an end of which P holds -/
def Go (tb : Tables) (e : Env) (below : List Frame) (P : Outcome → State → Prop) (F : State) : Prop :=
  ∃ s₂ o, Steps tb e below F s₂ ∧ s₂.status = .running ∧ Ended s₂ below o ∧ P o s₂
theorem Go.step {tb : Tables} {e : Env} {below : List Frame} {P : Outcome → State → Prop} {A B : State} (h : ∀ t, Steps tb e below B t → Steps tb e below A t) (k : Go tb e below P B) : Go tb e below P A := by
  obtain ⟨s₂, o, h1, h2, h3, h4⟩ := k
  exact ⟨s₂, o, h _ h1, h2, h3, h4⟩
theorem Go.via {tb : Tables} {e : Env} {below : List Frame} {P : Outcome → State → Prop} {A B : State} (h : Steps tb e below A B) (k : Go tb e below P B) : Go tb e below P A :=
  Go.step (fun t q => h.trans q) k
/-- how a walk ends: it returns v, Q holds of v, the heap and the places written; at most C cells and S slots were made -/
def EndsAs (s : State) (C S : Nat) (Q : Option Value → Heap → List Loc → Prop) (o : Outcome) (U : State) : Prop :=
  ∃ v L, o = .returned v ∧ Q v U.heap L ∧ FrameEnd s o U L C S
/-- the contract of a body at arguments 'as' and heap h0 -/
abbrev Con (l : Launch) (Z : State) (y : MethodName) (bytes : ByteArray) (mx : Nat) (ret : Option FieldType) (ws : List Jvm.Cond) (rm : Room) (as : Array Value) (h0 : Heap) (Q : Option Value → Heap → List Loc → Prop) : Prop :=
  MetFree l y (head1 (Jvm.Cond.code y bytes mx ret :: ws) rm) (fun a U => a = as ∧ Z.Warmed39 U.vm ∧ U.heap = h0) (fun _ _ _ _ _ => True) (fun _ U o U' => ∃ v L, o = .returned v ∧ Q v U'.heap L ∧ FrameEnd U o U' L rm.cells rm.slots)
theorem Con.of {l : Launch} {Z : State} {y : MethodName} {bytes : ByteArray} {mx : Nat} {ret : Option FieldType} {ws : List Jvm.Cond} {rm : Room} {as : Array Value} {h0 : Heap} {Q : Option Value → Heap → List Loc → Prop} (hpl : plainFor y = true)
    (body : ∀ (p : Program) (e : Env) (s : State) (m : MethodId) (below : List Frame) (meth : Method) (c : Code) (s₁ : State), Z.Warmed39 s.vm → p.tables.exec = Jvm.exec → c.code = bytes → c.maxLocals = mx → s.vm.findClass y.cls = some m.cls → meth.sig.returnType = ret → meth.locks = false → meth.name = y.name →
      Stand p l e rm s m as below meth c s₁ [] 0 0 → s₁.heap = h0 → Go p.tables e below (EndsAs s rm.cells rm.slots Q) (s₁.setTop (entryFrame m as mx))) :
    Con l Z y bytes mx ret ws rm as h0 Q := by
  refine MetFree.of_bodySF hpl hisR ?_
  intro p e s m args below meth c s₁ Bd hml0 hP hK
  obtain ⟨rfl, hZ, hh⟩ := hP
  exact body p e s m below meth c s₁ hZ Bd.exec Bd.bytes hml0 (findClass_of_methodNamed Bd.named) Bd.returns Bd.notSynchronized (name_of_methodNamed Bd.named Bd.method).1 (Stand.of_body Bd) (by rw [← hh, Bd.state]; rfl)
section Kit
variable {p : Program} {l : Launch} {e : Env} {R : Room} {s : State} {m : MethodId} {args : Array Value} {below : List Frame} {meth : Method} {c : Code} {T : State} {locs : List Loc} {cells slots : Nat} {Z : State} {a0 : Array Value} {h : Heap}
theorem leafO (X : Stand p l e R s m args below meth c T locs cells slots) (hx : p.tables.exec = Jvm.exec) {t : FieldType} (hret : meth.sig.returnType = some t) (hlk : meth.locks = false) {pc : Nat} {Ls : Array Slot} {w : Value} {i : Instr} {rest : List Value} (hn : narrow t w = w)
    (hi : (i = .ireturn ∧ (t = .int ∨ t = .boolean ∨ t = .byte ∨ t = .char ∨ t = .short) ∧ ∃ z, w = .int z) ∨ (i = .lreturn ∧ t = .long ∧ ∃ z, w = .long z) ∨ (i = .dreturn ∧ t = .double ∧ ∃ z, w = .double z) ∨ (i = .freturn ∧ t = .float ∧ ∃ z, w = .float z) ∨ (i = .areturn ∧ t.isReference = true ∧ w.isRef = true))
    (hd : decode c.code pc = .ok (i, 1)) {Q : Option Value → Heap → List Loc → Prop} {C S : Nat} (hQ : Q (some w) T.heap locs) (hC : cells ≤ C) (hS : slots ≤ S) :
    Go p.tables e below (EndsAs s C S Q) (T.setTop (mkF m pc Ls (w :: rest))) := by
  obtain ⟨fs, hr, hrun, hended, hW, hsame⟩ := X.leave (v := some w) (fun h => by rw [hret] at h; cases h) hlk
  exact ⟨_, _, retOut X hx hret hn hi hd hr, hrun, hended, _, _, rfl, hQ, ⟨_, rfl⟩, hW, hsame.mono hC hS⟩
theorem leafI (X : Stand p l e R s m args below meth c T locs cells slots) (hx : p.tables.exec = Jvm.exec) (hret : meth.sig.returnType = some .int) (hlk : meth.locks = false) {pc : Nat} {Ls : Array Slot} {z : Int32} {rest : List Value}
    (hd : decode c.code pc = .ok (.ireturn, 1)) {Q : Option Value → Heap → List Loc → Prop} {C S : Nat} (hQ : Q (some (.int z)) T.heap locs) (hC : cells ≤ C) (hS : slots ≤ S) :
    Go p.tables e below (EndsAs s C S Q) (T.setTop (mkF m pc Ls (.int z :: rest))) :=
  leafO X hx hret hlk rfl (Or.inl ⟨rfl, Or.inl rfl, _, rfl⟩) hd hQ hC hS
theorem leafJ (X : Stand p l e R s m args below meth c T locs cells slots) (hx : p.tables.exec = Jvm.exec) (hret : meth.sig.returnType = some .long) (hlk : meth.locks = false) {pc : Nat} {Ls : Array Slot} {z : Int64} {rest : List Value}
    (hd : decode c.code pc = .ok (.lreturn, 1)) {Q : Option Value → Heap → List Loc → Prop} {C S : Nat} (hQ : Q (some (.long z)) T.heap locs) (hC : cells ≤ C) (hS : slots ≤ S) :
    Go p.tables e below (EndsAs s C S Q) (T.setTop (mkF m pc Ls (.long z :: rest))) :=
  leafO X hx hret hlk rfl (Or.inr (Or.inl ⟨rfl, rfl, _, rfl⟩)) hd hQ hC hS
theorem leafA (X : Stand p l e R s m args below meth c T locs cells slots) (hx : p.tables.exec = Jvm.exec) {t : FieldType} (hret : meth.sig.returnType = some t) (ht : t.isReference = true) (hlk : meth.locks = false) {pc : Nat} {Ls : Array Slot} {w : Value} {rest : List Value} (hw : w.isRef = true) (hn : narrow t w = w)
    (hd : decode c.code pc = .ok (.areturn, 1)) {Q : Option Value → Heap → List Loc → Prop} {C S : Nat} (hQ : Q (some w) T.heap locs) (hC : cells ≤ C) (hS : slots ≤ S) :
    Go p.tables e below (EndsAs s C S Q) (T.setTop (mkF m pc Ls (w :: rest))) :=
  leafO X hx hret hlk hn (Or.inr (Or.inr (Or.inr (Or.inr ⟨rfl, ht, hw⟩)))) hd hQ hC hS
theorem leafN (X : Stand p l e R s m args below meth c T locs cells slots) (hx : p.tables.exec = Jvm.exec) {t : FieldType} (hret : meth.sig.returnType = some t) (ht : t = .boolean ∨ t = .byte ∨ t = .char ∨ t = .short) (hlk : meth.locks = false) {pc : Nat} {Ls : Array Slot} {z w : Int32} {rest : List Value} (hw : nar t z = w)
    (hd : decode c.code pc = .ok (.ireturn, 1)) {Q : Option Value → Heap → List Loc → Prop} {C S : Nat} (hQ : Q (some (.int w)) T.heap locs) (hC : cells ≤ C) (hS : slots ≤ S) :
    Go p.tables e below (EndsAs s C S Q) (T.setTop (mkF m pc Ls (.int z :: rest))) := by
  subst hw
  obtain ⟨fs, hr, hrun, hended, hW, hsame⟩ := X.leave (v := some (.int (nar t z))) (fun h => by rw [hret] at h; cases h) hlk
  exact ⟨_, _, retN X hx hret ht hd hr, hrun, hended, _, _, rfl, hQ, ⟨_, rfl⟩, hW, hsame.mono hC hS⟩
theorem leafV (X : Stand p l e R s m args below meth c T locs cells slots) (hx : p.tables.exec = Jvm.exec) (hret : meth.sig.returnType = none) (hlk : meth.locks = false) {pc : Nat} {Ls : Array Slot}
    (hd : decode c.code pc = .ok (.return_, 1)) {Q : Option Value → Heap → List Loc → Prop} {C S : Nat} (hQ : Q none T.heap locs) (hC : cells ≤ C) (hS : slots ≤ S) :
    Go p.tables e below (EndsAs s C S Q) (T.setTop (mkF m pc Ls [])) := by
  obtain ⟨fs, hr, hrun, hended, hW, hsame⟩ := X.leave (v := none) (fun _ => rfl) hlk
  exact ⟨_, _, X.returnOut hx hret hd hr, hrun, hended, _, _, rfl, hQ, ⟨_, rfl⟩, hW, hsame.mono hC hS⟩
theorem goS (X : Stand p l e R s m args below meth c T locs cells slots) (hx : p.tables.exec = Jvm.exec) (hZ : Z.Warmed39 s.vm) {own : String} {index : Nat} {y : MethodName} {bytes : ByteArray} {maxL : Nat} {ret : Option FieldType} (hown : s.vm.findClass own = some m.cls)
    (w1 : (Jvm.Cond.methodLink own index y).before a0 Z = true) (w2 : (Jvm.Cond.static y).before a0 Z = true) (w3 : (Jvm.Cond.initialized y.cls).before a0 Z = true) (w4 : (Jvm.Cond.code y bytes maxL ret).before a0 Z = true)
    (hy : y.cls ≠ "java/lang/invoke/MethodHandle" ∧ y.cls ≠ "java/lang/invoke/VarHandle") {rm : Room} {as : Array Value} {Qc : Option Value → Heap → List Loc → Prop} (hM : Con l Z y bytes maxL ret [] rm as h Qc) (eT : T.heap = h)
    {pc : Nat} {Ls : Array Slot} {st : List Value} (hsize : Ls.size = c.maxLocals) (argsL rest : List Value) (has : argsL.toArray = as) {ps : List FieldType} {r : Option FieldType} (hpd : parseMethodDescriptor y.desc = some ⟨ps, r⟩) (hlen : argsL.length = ps.length) (hst : st = argsL.reverse ++ rest)
    (W : Nat) (hW : (rest.map fun v => v.category).sum = W) (hd : decode c.code pc = .ok (.invokestatic index, 3)) (hf : rm.frames + 1 ≤ R.frames) (hl : W + (maxL + 11) + rm.locals ≤ R.locals) (hc : cells + rm.cells ≤ R.cells) (hs : slots + rm.slots ≤ R.slots) {P : Outcome → State → Prop}
    (k : ∀ (T' : State) (L : List Loc) (v : Option Value), Qc v T'.heap L → Stand p l e R s m args below meth c T' (locs ++ L) (cells + rm.cells) (slots + rm.slots) → Go p.tables e below P (T'.setTop (mkF m (pc + 3) Ls (v.toList ++ rest)))) :
    Go p.tables e below P (T.setTop (mkF m pc Ls st)) := by
  subst hst
  obtain ⟨v, _, ⟨T', L', k', n'⟩, -, X', ⟨L, hQ, q1, q2, q3⟩, st⟩ := Jvm.LawKit.callS X hx (y := y) hown (mvT hZ w1) (mvT hZ w2) (mvT hZ w3) (mvT hZ w4) hy (backOf (W := W) hM hZ w4 w3 hf hl) (g := mkF m pc Ls (argsL.reverse ++ rest)) rfl hsize (argsL := argsL) (rest := rest) (lenOf hpd hlen) rfl (by show 2 * 0 + _ ≤ _; omega) hd (fun _ _ => ⟨has, eT, hc, hs⟩)
  dsimp only [Pt.U, Pt.locs, Pt.cells, Pt.slots] at X' q1 q2 q3 st hQ
  subst q1 q2 q3
  exact Go.step st (k T' L v hQ X')
theorem goI (X : Stand p l e R s m args below meth c T locs cells slots) (hx : p.tables.exec = Jvm.exec) (hZ : Z.Warmed39 s.vm) {own : String} {index : Nat} {y : MethodName} {bytes : ByteArray} {maxL : Nat} (hy1 : y.name = "<init>") (hown : s.vm.findClass own = some m.cls)
    (w1 : (Jvm.Cond.methodLink own index y).before a0 Z = true) (w2 : (Jvm.Cond.instanceMethod y).before a0 Z = true) (w3 : (Jvm.Cond.initialized y.cls).before a0 Z = true) (w4 : (Jvm.Cond.code y bytes maxL none).before a0 Z = true)
    (hy : y.cls ≠ "java/lang/invoke/MethodHandle" ∧ y.cls ≠ "java/lang/invoke/VarHandle") {rm : Room} {as : Array Value} {Qc : Option Value → Heap → List Loc → Prop} (hM : Con l Z y bytes maxL none [] rm as h Qc) (eT : T.heap = h)
    {pc : Nat} {Ls : Array Slot} {st : List Value} (hsize : Ls.size = c.maxLocals) (a : Addr) (argsL rest : List Value) (has : (Value.ref a :: argsL).toArray = as) {ps : List FieldType} {r : Option FieldType} (hpd : parseMethodDescriptor y.desc = some ⟨ps, r⟩) (hlen : argsL.length = ps.length) (hst : st = argsL.reverse ++ .ref a :: rest)
    (W : Nat) (hW : (rest.map fun v => v.category).sum = W) (hd : decode c.code pc = .ok (.invokespecial index, 3)) (hf : rm.frames + 1 ≤ R.frames) (hl : W + (maxL + 11) + rm.locals ≤ R.locals) (hc : cells + rm.cells ≤ R.cells) (hs : slots + rm.slots ≤ R.slots) {P : Outcome → State → Prop}
    (k : ∀ (T' : State) (L : List Loc) (v : Option Value), Qc v T'.heap L → Stand p l e R s m args below meth c T' (locs ++ L) (cells + rm.cells) (slots + rm.slots) → Go p.tables e below P (T'.setTop (mkF m (pc + 3) Ls (v.toList ++ rest)))) :
    Go p.tables e below P (T.setTop (mkF m pc Ls st)) := by
  subst hst
  obtain ⟨v, _, ⟨T', L', k', n'⟩, -, X', ⟨L, hQ, q1, q2, q3⟩, st⟩ := X.specialBack hx (y := y) hy1 hown (mvT hZ w1) (mvT hZ w2) (mvT hZ w4) hy (backOf (W := W) hM hZ w4 w3 hf hl) (g := mkF m pc Ls (argsL.reverse ++ .ref a :: rest)) rfl hsize (Steps.refl _) (a := a) (argsL := argsL) (rest := rest) (lenOf hpd hlen) rfl (by show 2 * 0 + _ ≤ _; omega) hd (fun _ _ => ⟨has, eT, hc, hs⟩)
  dsimp only [Pt.U, Pt.locs, Pt.cells, Pt.slots] at X' q1 q2 q3 st hQ
  subst q1 q2 q3
  exact Go.via st (k T' L v hQ X')
theorem goV (X : Stand p l e R s m args below meth c T locs cells slots) (hx : p.tables.exec = Jvm.exec) (hZ : Z.Warmed39 s.vm) {own C : String} {index : Nat} {y z : MethodName} {bytes : ByteArray} {maxL : Nat} {ret : Option FieldType} (hown : s.vm.findClass own = some m.cls)
    (w1 : (Jvm.Cond.methodLink own index y).before a0 Z = true) (w2 : (Jvm.Cond.declares y).before a0 Z = true) (hnf : NotFace s y) (w5 : (Jvm.Cond.selects C y z).before a0 Z = true) (w6 : (Jvm.Cond.instanceMethod z).before a0 Z = true) (w3 : (Jvm.Cond.initialized z.cls).before a0 Z = true) (w4 : (Jvm.Cond.code z bytes maxL ret).before a0 Z = true)
    (hy : y.cls ≠ "java/lang/invoke/MethodHandle" ∧ y.cls ≠ "java/lang/invoke/VarHandle") {rm : Room} {as : Array Value} {Qc : Option Value → Heap → List Loc → Prop} (hM : Con l Z z bytes maxL ret [] rm as h Qc) (eT : T.heap = h)
    {a : Addr} (E : Exa Z h a C) {pc : Nat} {Ls : Array Slot} {st : List Value} (hsize : Ls.size = c.maxLocals) (argsL rest : List Value) (has : (Value.ref a :: argsL).toArray = as) {ps : List FieldType} {r : Option FieldType} (hpd : parseMethodDescriptor y.desc = some ⟨ps, r⟩) (hlen : argsL.length = ps.length) (hst : st = argsL.reverse ++ .ref a :: rest)
    (W : Nat) (hW : (rest.map fun v => v.category).sum = W) (hd : decode c.code pc = .ok (.invokevirtual index, 3)) (hf : rm.frames + 1 ≤ R.frames) (hl : W + (maxL + 11) + rm.locals ≤ R.locals) (hc : cells + rm.cells ≤ R.cells) (hs : slots + rm.slots ≤ R.slots) {P : Outcome → State → Prop}
    (k : ∀ (T' : State) (L : List Loc) (v : Option Value), Qc v T'.heap L → Stand p l e R s m args below meth c T' (locs ++ L) (cells + rm.cells) (slots + rm.slots) → Go p.tables e below P (T'.setTop (mkF m (pc + 3) Ls (v.toList ++ rest)))) :
    Go p.tables e below P (T.setTop (mkF m pc Ls st)) := by
  subst hst
  obtain ⟨cq, kq, qa, qb, qc⟩ := isOf hZ eT E
  obtain ⟨v, _, ⟨T', L', k', n'⟩, -, X', ⟨L, hQ, q1, q2, q3⟩, st⟩ := X.virtualBack hx (y := y) (z := z) hown (mvT hZ w1) (mvT hZ w2) hnf (mvT hZ w5) (mvT hZ w6) hy (backOf (W := W) hM hZ w4 w3 hf hl) qa qc (g := mkF m pc Ls (argsL.reverse ++ .ref a :: rest)) rfl hsize (Steps.refl _) (argsL := argsL) (rest := rest) (lenOf hpd hlen) rfl (by show 2 * 0 + _ ≤ _; omega) hd (fun _ _ => ⟨has, eT, hc, hs⟩)
  dsimp only [Pt.U, Pt.locs, Pt.cells, Pt.slots] at X' q1 q2 q3 st hQ
  subst q1 q2 q3
  exact Go.via st (k T' L v hQ X')
end Kit

/-! plain facts -/
def own_p : Nat → Int64
  | 0 => 1
  | n + 1 => own_p n * 10
def own_ten : List Int64 := [1, 10, 100, 1000, 10000, 100000, 1000000, 10000000, 100000000, 1000000000, 10000000000, 100000000000, 1000000000000, 10000000000000, 100000000000000, 1000000000000000, 10000000000000000, 100000000000000000, 1000000000000000000]
theorem own_pt {i : Nat} (h : i < 19) : own_p i = own_ten.getD i 0 := (by decide +kernel : ∀ i : Fin 19, own_p i.1 = own_ten.getD i.1 0) ⟨i, h⟩
theorem own_getL (l : List Int64) (i : Nat) : (l.map Value.long).getD i (.long 0) = .long (l.getD i 0) := by
  simp only [List.getD_eq_getElem?_getD, List.getElem?_map]
  cases l[i]? <;> rfl
def Pow (Z : State) (h : Heap) (b : Addr) (n i : Nat) : Prop := ∃ cl : Cell, Arr Z h b cl .long ∧ cl.slots.size = n ∧ ∀ j, j < i → cl.slots[j]? = some (.long (own_p j))
theorem own_lt {i n : Nat} (h : i < n) (hn : n ≤ 19) : Int32.ofNat i < Int32.ofNat n := by
  rw [Int32.lt_iff_toInt_lt, Int32.toInt_ofNat_of_lt (by omega), Int32.toInt_ofNat_of_lt (by omega)]
  omega
theorem own_ge {i : Nat} : ¬ Int32.ofNat i < Int32.ofNat i := by rw [Int32.lt_iff_toInt_lt]; omega
theorem own_nn {n : Nat} (hn : n ≤ 19) : ¬ Int32.ofNat n < 0 := by
  rw [Int32.lt_iff_toInt_lt, Int32.toInt_ofNat_of_lt (by omega), show (0 : Int32).toInt = 0 from rfl]
  omega
theorem own_n32 {n : Nat} (hn : n ≤ 19) : (Int32.ofNat n).toNatClampNeg = n := by
  rw [Int32.toNatClampNeg, Int32.toInt_ofNat_of_lt (by omega)]; rfl
theorem own_one (i : Nat) : Int32.ofNat i + (1 : Int32) = Int32.ofNat (i + 1) := (Int32.ofNat_add i 1).symm
theorem own_pred {n : Nat} (h : 0 < n) : Int32.ofNat n - (1 : Int32) = Int32.ofNat (n - 1) := by
  obtain ⟨k, rfl⟩ : ∃ k, n = k + 1 := ⟨n - 1, by omega⟩
  rw [← own_one, Int32.add_sub_cancel]; rfl
theorem own_in {i n sz : Nat} (h : i < n) (hn : n ≤ 19) (hs : sz = n) : ¬ (Int32.ofNat i < 0 ∨ sz ≤ (Int32.ofNat i).toNatClampNeg) := by
  rintro (q | q)
  · exact own_nn (by omega) q
  · rw [own_n32 (by omega)] at q; omega
theorem own_irem (x y : Int32) : x - (x / y) * y = x % y := by
  apply Int32.toInt_inj.mp
  have h1 := (x % y).le_toInt
  have h2 := (x % y).toInt_lt
  have e : (x - (x / y) * y).toInt = ((x % y).toInt).bmod (2 ^ 32) := by
    rw [Int32.toInt_sub, Int32.toInt_mul, Int32.toInt_div, Int32.toInt_mod, Int.tmod_def, Int.bmod_mul_bmod, Int.sub_bmod_bmod, Int.mul_comm y.toInt]
  rw [e]
  exact Int.bmod_eq_of_le_mul_two (by omega) (by omega)

theorem own_nat (x : Int32) (K : Nat) (h0 : 0 ≤ x.toInt) (h1 : x.toInt < K) (hK : K ≤ 20) : ∃ n : Nat, n < K ∧ x = Int32.ofNat n := by
  refine ⟨x.toInt.toNat, by omega, ?_⟩
  apply Int32.toInt_inj.mp
  rw [Int32.toInt_ofNat_of_lt (by omega)]
  omega
theorem own_mod (a k : Int32) (K : Nat) (hk : k.toInt = K) (h0 : 0 < K) (hK : K ≤ 20) : ∃ n : Nat, n < K ∧ ((a &&& (2147483647 : Int32)) - ((a &&& (2147483647 : Int32)) / k) * k) = Int32.ofNat n := by
  have p0 : 0 ≤ (a &&& (2147483647 : Int32)).toInt := (c_andS a 2147483647).2.2 (by decide)
  rw [own_irem]
  have h2 := (c_irem (a &&& (2147483647 : Int32)) k K hk).1 p0
  have h4 := Int.emod_nonneg (a &&& (2147483647 : Int32)).toInt (show (K : Int) ≠ 0 by omega)
  have h5 := Int.emod_lt_of_pos (a &&& (2147483647 : Int32)).toInt (show (0 : Int) < K by omega)
  exact own_nat _ K (by omega) (by omega) hK
theorem own_toInt {n : Nat} (hn : n ≤ 19) : (Int32.ofNat n).toInt = n := Int32.toInt_ofNat_of_lt (by omega)
theorem Pow.next {Z : State} {h h' : Heap} {b : Addr} {n i : Nat} {cl : Cell} (A : Arr Z h b cl .long) (S : cl.slots.size = n) (H : ∀ j, j < i → cl.slots[j]? = some (.long (own_p j))) (hi : i < n) (hn : n ≤ 19) (W : Wr h h' b (Int32.ofNat i).toNatClampNeg (.long (own_p i))) : Pow Z h' b n (i + 1) := by
  rw [own_n32 (by omega)] at W
  refine ⟨_, A.same W, by rw [sz_set]; exact S, fun j hj => ?_⟩
  show (cl.slots.setIfInBounds i _)[j]? = _
  by_cases q : i = j
  · subst q; rw [Array.getElem?_setIfInBounds_self_of_lt (by omega)]
  · rw [Array.getElem?_setIfInBounds_ne q]; exact H j (by omega)

theorem d1_0 : decode prog_22_method_8_code 0 = .ok (.iload_n 0, 1) := by decide +kernel
theorem d1_1 : decode prog_22_method_8_code 1 = .ok (.newarray .long, 2) := by decide +kernel
theorem d1_3 : decode prog_22_method_8_code 3 = .ok (.astore_n 1, 1) := by decide +kernel
theorem d1_4 : decode prog_22_method_8_code 4 = .ok (.lconst 1, 1) := by decide +kernel
theorem d1_5 : decode prog_22_method_8_code 5 = .ok (.lstore_n 2, 1) := by decide +kernel
theorem d1_6 : decode prog_22_method_8_code 6 = .ok (.iconst 0, 1) := by decide +kernel
theorem d1_7 : decode prog_22_method_8_code 7 = .ok (.istore 4, 2) := by decide +kernel
theorem d1_9 : decode prog_22_method_8_code 9 = .ok (.iload 4, 2) := by decide +kernel
theorem d1_11 : decode prog_22_method_8_code 11 = .ok (.iload_n 0, 1) := by decide +kernel
theorem d1_12 : decode prog_22_method_8_code 12 = .ok (.if_icmp .ge 20, 3) := by decide +kernel
theorem d1_15 : decode prog_22_method_8_code 15 = .ok (.aload_n 1, 1) := by decide +kernel
theorem d1_16 : decode prog_22_method_8_code 16 = .ok (.iload 4, 2) := by decide +kernel
theorem d1_18 : decode prog_22_method_8_code 18 = .ok (.lload_n 2, 1) := by decide +kernel
theorem d1_19 : decode prog_22_method_8_code 19 = .ok (.lastore, 1) := by decide +kernel
theorem d1_20 : decode prog_22_method_8_code 20 = .ok (.lload_n 2, 1) := by decide +kernel
theorem d1_21 : decode prog_22_method_8_code 21 = .ok (.ldc2_w 47, 3) := by decide +kernel
theorem d1_24 : decode prog_22_method_8_code 24 = .ok (.lmul, 1) := by decide +kernel
theorem d1_25 : decode prog_22_method_8_code 25 = .ok (.lstore_n 2, 1) := by decide +kernel
theorem d1_26 : decode prog_22_method_8_code 26 = .ok (.iinc 4 1, 3) := by decide +kernel
theorem d1_29 : decode prog_22_method_8_code 29 = .ok (.goto (-20), 3) := by decide +kernel
theorem d1_32 : decode prog_22_method_8_code 32 = .ok (.aload_n 1, 1) := by decide +kernel
theorem d1_33 : decode prog_22_method_8_code 33 = .ok (.areturn, 1) := by decide +kernel
theorem pn1 : plainFor (⟨"com/example/pledgebook/pledgebook/Money", "powersOfTen", "(I)[J"⟩ : MethodName) = true := plainFor_of_name (by first | (simp [plainName, overriddenIn]; done) | decide +kernel)
theorem pd1 : parseMethodDescriptor "(I)[J" = some ⟨[.int], some (.array .long)⟩ := by decide +kernel
theorem ef1 (m : MethodId) (x0 : Int32) : entryFrame m #[(.int x0)] 5 = mkF m 0 #[.val (.int x0), .unset, .unset, .unset, .unset] [] := by first | (simp [entryFrame, mkF, argsToLocals, Value.category]; done) | rfl
set_option maxRecDepth 65536 in
set_option maxHeartbeats 40000000 in
theorem loop1 {p : Program} {l : Launch} {e : Env} {R : Room} {s : State} {m : MethodId} {args : Array Value} {below : List Frame} {meth : Method} {c : Code} {Z : State} {a0 : Array Value} {cells slots C S : Nat} (hx : p.tables.exec = Jvm.exec) (hZ : Z.Warmed39 s.vm) (hw : ∀ d ∈ tables_1, d.before a0 Z = true) (hby : c.code = prog_22_method_8_code) (hown : s.vm.findClass "com/example/pledgebook/pledgebook/Money" = some m.cls) (hret : meth.sig.returnType = some (.array .long)) (hlk : meth.locks = false)
    (n0 : Nat) (h0 : Heap) (b : Addr) (n : Nat) (hn : n ≤ 19) (gb : n0 ≤ b) (gh : h0.size ≤ b) (hC : cells ≤ C) (hS : slots ≤ S) :
    ∀ (k i : Nat) (T : State) (h : Heap) (locs : List Loc), i + k = n → Stand p l e R s m args below meth c T locs cells slots → T.heap = h → Fr n0 locs → Keep h0 h [] → Pow Z h b n i →
      Go p.tables e below (EndsAs s C S (fun v h L => ∃ b : Addr, v = some (.ref b) ∧ Fr n0 L ∧ Keep h0 h [] ∧ n0 ≤ b ∧ Pow Z h b n n)) (T.setTop (mkF m 9 #[.val (.int (Int32.ofNat n)), .val (.ref b), .val (.long (own_p i)), .second, .val (.int (Int32.ofNat i))] [])) := by
  intro k
  induction k with
  | zero =>
    intro i T h locs hik X eT N K hP
    show Go _ _ _ _ (T.setTop (mkF m 9 #[.val (.int (Int32.ofNat n)), .val (.ref b), .val (.long (own_p i)), .second, .val (.int (Int32.ofNat i))] []))
    refine Go.step (fun _ k => XS.iload X.here hx rfl (hb hby d1_9) rfl k) ?_
    show Go _ _ _ _ (T.setTop (mkF m 11 #[.val (.int (Int32.ofNat n)), .val (.ref b), .val (.long (own_p i)), .second, .val (.int (Int32.ofNat i))] [(.int (Int32.ofNat i))]))
    refine Go.step (fun _ k => XS.iloadN X.here hx rfl (hb hby d1_11) rfl k) ?_
    show Go _ _ _ _ (T.setTop (mkF m 12 #[.val (.int (Int32.ofNat n)), .val (.ref b), .val (.long (own_p i)), .second, .val (.int (Int32.ofNat i))] [(.int (Int32.ofNat n)), (.int (Int32.ofNat i))]))
    refine Go.step (fun _ k => XS.icmpYes X.here hx rfl (pc0 := 12) (pc' := 32) rfl (hb hby d1_12) rfl (flt (show ¬ ((Int32.ofNat i) < (Int32.ofNat n)) from (by rw [show i = n by omega]; exact own_ge))).2.1 (by decide) (by decide) k) ?_
    show Go _ _ _ _ (T.setTop (mkF m 32 #[.val (.int (Int32.ofNat n)), .val (.ref b), .val (.long (own_p i)), .second, .val (.int (Int32.ofNat i))] []))
    refine Go.step (fun _ k => XS.aloadN X.here hx rfl (hb hby d1_32) rfl rfl k) ?_
    show Go _ _ _ _ (T.setTop (mkF m 33 #[.val (.int (Int32.ofNat n)), .val (.ref b), .val (.long (own_p i)), .second, .val (.int (Int32.ofNat i))] [(.ref b)]))
    exact leafA X hx hret rfl hlk rfl rfl (hb hby d1_33) ⟨b, rfl, N, by rw [eT]; exact K, gb, by rw [eT]; rw [show i = n from hik] at hP; exact hP⟩ hC hS
  | succ k ih =>
    intro i T h locs hik X eT N K hP
    show Go _ _ _ _ (T.setTop (mkF m 9 #[.val (.int (Int32.ofNat n)), .val (.ref b), .val (.long (own_p i)), .second, .val (.int (Int32.ofNat i))] []))
    refine Go.step (fun _ k => XS.iload X.here hx rfl (hb hby d1_9) rfl k) ?_
    show Go _ _ _ _ (T.setTop (mkF m 11 #[.val (.int (Int32.ofNat n)), .val (.ref b), .val (.long (own_p i)), .second, .val (.int (Int32.ofNat i))] [(.int (Int32.ofNat i))]))
    refine Go.step (fun _ k => XS.iloadN X.here hx rfl (hb hby d1_11) rfl k) ?_
    show Go _ _ _ _ (T.setTop (mkF m 12 #[.val (.int (Int32.ofNat n)), .val (.ref b), .val (.long (own_p i)), .second, .val (.int (Int32.ofNat i))] [(.int (Int32.ofNat n)), (.int (Int32.ofNat i))]))
    refine Go.step (fun _ k => XS.icmpNo X.here hx rfl (hb hby d1_12) rfl (tlt (own_lt (by omega) hn)).2.1 k) ?_
    show Go _ _ _ _ (T.setTop (mkF m 15 #[.val (.int (Int32.ofNat n)), .val (.ref b), .val (.long (own_p i)), .second, .val (.int (Int32.ofNat i))] []))
    refine Go.step (fun _ k => XS.aloadN X.here hx rfl (hb hby d1_15) rfl rfl k) ?_
    show Go _ _ _ _ (T.setTop (mkF m 16 #[.val (.int (Int32.ofNat n)), .val (.ref b), .val (.long (own_p i)), .second, .val (.int (Int32.ofNat i))] [(.ref b)]))
    refine Go.step (fun _ k => XS.iload X.here hx rfl (hb hby d1_16) rfl k) ?_
    show Go _ _ _ _ (T.setTop (mkF m 18 #[.val (.int (Int32.ofNat n)), .val (.ref b), .val (.long (own_p i)), .second, .val (.int (Int32.ofNat i))] [(.int (Int32.ofNat i)), (.ref b)]))
    refine Go.step (fun _ k => XS.lloadN X.here hx rfl (hb hby d1_18) rfl k) ?_
    show Go _ _ _ _ (T.setTop (mkF m 19 #[.val (.int (Int32.ofNat n)), .val (.ref b), .val (.long (own_p i)), .second, .val (.int (Int32.ofNat i))] [(.long (own_p i)), (.int (Int32.ofNat i)), (.ref b)]))
    obtain ⟨cl, Ar, Sz, At⟩ := hP
    obtain ⟨T1, h1, X1, e1, W1, st1⟩ := stJ X hx hZ eT Ar (j := Int32.ofNat i) (own_in (by omega) hn Sz) (g := (mkF m 19 #[.val (.int (Int32.ofNat n)), .val (.ref b), .val (.long (own_p i)), .second, .val (.int (Int32.ofNat i))] [(.long (own_p i)), (.int (Int32.ofNat i)), (.ref b)])) rfl rfl (hb hby d1_19)
    have P1 : Pow Z h1 b n (i + 1) := Pow.next Ar Sz At (by omega) hn W1
    have N1 := Fr.snoc X1 N gb
    have K1 := K.wr W1 (Or.inr gh)
    refine Go.step st1 ?_
    show Go _ _ _ _ (T1.setTop (mkF m 20 #[.val (.int (Int32.ofNat n)), .val (.ref b), .val (.long (own_p i)), .second, .val (.int (Int32.ofNat i))] []))
    refine Go.step (fun _ k => XS.lloadN X1.here hx rfl (hb hby d1_20) rfl k) ?_
    show Go _ _ _ _ (T1.setTop (mkF m 21 #[.val (.int (Int32.ofNat n)), .val (.ref b), .val (.long (own_p i)), .second, .val (.int (Int32.ofNat i))] [(.long (own_p i))]))
    refine Go.step (X1.ldc2Long hx hown (mvT hZ (hw _ (List.mem_of_getElem? (i := 24) rfl))) (g := (mkF m 21 #[.val (.int (Int32.ofNat n)), .val (.ref b), .val (.long (own_p i)), .second, .val (.int (Int32.ofNat i))] [(.long (own_p i))])) rfl (hb hby d1_21)) ?_
    show Go _ _ _ _ (T1.setTop (mkF m 24 #[.val (.int (Int32.ofNat n)), .val (.ref b), .val (.long (own_p i)), .second, .val (.int (Int32.ofNat i))] [(.long (10 : Int64)), (.long (own_p i))]))
    refine Go.step (fun _ k => XS.lmul X1.here hx rfl (hb hby d1_24) rfl k) ?_
    show Go _ _ _ _ (T1.setTop (mkF m 25 #[.val (.int (Int32.ofNat n)), .val (.ref b), .val (.long (own_p i)), .second, .val (.int (Int32.ofNat i))] [(.long ((own_p i) * (10 : Int64)))]))
    refine Go.step (fun _ k => XS.lstoreN X1.here hx rfl (hb hby d1_25) rfl (l' := #[.val (.int (Int32.ofNat n)), .val (.ref b), .val (.long ((own_p i) * (10 : Int64))), .second, .val (.int (Int32.ofNat i))]) rfl k) ?_
    show Go _ _ _ _ (T1.setTop (mkF m 26 #[.val (.int (Int32.ofNat n)), .val (.ref b), .val (.long ((own_p i) * (10 : Int64))), .second, .val (.int (Int32.ofNat i))] []))
    refine Go.step (fun _ k => XS.iinc X1.here hx rfl (hb hby d1_26) rfl (l' := #[.val (.int (Int32.ofNat n)), .val (.ref b), .val (.long ((own_p i) * (10 : Int64))), .second, .val (.int ((Int32.ofNat i) + (1 : Int32)))]) rfl k) ?_
    show Go _ _ _ _ (T1.setTop (mkF m 29 #[.val (.int (Int32.ofNat n)), .val (.ref b), .val (.long ((own_p i) * (10 : Int64))), .second, .val (.int ((Int32.ofNat i) + (1 : Int32)))] []))
    refine Go.step (fun _ k => XS.goto X1.here hx rfl (pc0 := 29) (pc' := 9) rfl (hb hby d1_29) (by decide) (by decide) k) ?_
    show Go _ _ _ _ (T1.setTop (mkF m 9 #[.val (.int (Int32.ofNat n)), .val (.ref b), .val (.long ((own_p i) * (10 : Int64))), .second, .val (.int ((Int32.ofNat i) + (1 : Int32)))] []))
    rw [own_one]
    exact ih (i + 1) T1 h1 _ (by omega) X1 e1 N1 K1 P1
set_option maxRecDepth 65536 in
set_option maxHeartbeats 40000000 in
theorem rm1 (l : Launch) (Z : State) (a0 : Array Value) (hw : ∀ d ∈ tables_1, d.before a0 Z = true) (ws : List Jvm.Cond)  (h0 : Heap) (n : Nat) (hn : n ≤ 19) (n0 : Nat) (Z0 : n0 ≤ h0.size) : Con l Z (⟨"com/example/pledgebook/pledgebook/Money", "powersOfTen", "(I)[J"⟩ : MethodName) prog_22_method_8_code 5 (some (.array .long)) ws ({ frames := 0, cells := 1, slots := 19, locals := 0 } : Room) #[(.int (Int32.ofNat n))] h0 (fun v h L => ∃ b : Addr, v = some (.ref b) ∧ Fr n0 L ∧ Keep h0 h [] ∧ n0 ≤ b ∧ Pow Z h b n n) := by
  refine Con.of pn1 fun p e s m below meth c s₁ hZ hx hby hml hown hret hlk hnm X0 e0 => ?_
  rw [ef1]
  show Go _ _ _ _ (s₁.setTop (mkF m 0 #[.val (.int (Int32.ofNat n)), .unset, .unset, .unset, .unset] []))
  refine Go.step (fun _ k => XS.iloadN X0.here hx rfl (hb hby d1_0) rfl k) ?_
  show Go _ _ _ _ (s₁.setTop (mkF m 1 #[.val (.int (Int32.ofNat n)), .unset, .unset, .unset, .unset] [(.int (Int32.ofNat n))]))
  obtain ⟨T1, h1, k1, X1, e1, E1, A1, st1⟩ := newP X0 hx hZ (hw _ (List.mem_of_getElem? (i := 0) rfl)) e0 (g := (mkF m 1 #[.val (.int (Int32.ofNat n)), .unset, .unset, .unset, .unset] [(.int (Int32.ofNat n))])) rfl (hb hby d1_1) rfl (own_nn hn) (cap := 19) (by rw [own_n32 hn]; exact hn) (by decide) (by decide) (by decide)
  obtain ⟨b, g1⟩ : ∃ z, z = h0.size := ⟨_, rfl⟩
  rw [← g1] at A1 st1
  have P0 : Pow Z h1 b n 0 := ⟨_, A1, by rw [sz_new]; exact own_n32 hn, fun j q => absurd q (Nat.not_lt_zero j)⟩
  refine Go.step st1 ?_
  show Go _ _ _ _ (T1.setTop (mkF m 3 #[.val (.int (Int32.ofNat n)), .unset, .unset, .unset, .unset] [(.ref b)]))
  refine Go.step (fun _ k => XS.astoreN X1.here hx rfl (hb hby d1_3) rfl rfl (l' := #[.val (.int (Int32.ofNat n)), .val (.ref b), .unset, .unset, .unset]) rfl k) ?_
  show Go _ _ _ _ (T1.setTop (mkF m 4 #[.val (.int (Int32.ofNat n)), .val (.ref b), .unset, .unset, .unset] []))
  refine Go.step (fun _ k => XS.lconst X1.here hx rfl (hb hby d1_4) k) ?_
  show Go _ _ _ _ (T1.setTop (mkF m 5 #[.val (.int (Int32.ofNat n)), .val (.ref b), .unset, .unset, .unset] [(.long (1 : Int64))]))
  refine Go.step (fun _ k => XS.lstoreN X1.here hx rfl (hb hby d1_5) rfl (l' := #[.val (.int (Int32.ofNat n)), .val (.ref b), .val (.long (1 : Int64)), .second, .unset]) rfl k) ?_
  show Go _ _ _ _ (T1.setTop (mkF m 6 #[.val (.int (Int32.ofNat n)), .val (.ref b), .val (.long (1 : Int64)), .second, .unset] []))
  refine Go.step (fun _ k => XS.iconst X1.here hx rfl (hb hby d1_6) k) ?_
  show Go _ _ _ _ (T1.setTop (mkF m 7 #[.val (.int (Int32.ofNat n)), .val (.ref b), .val (.long (1 : Int64)), .second, .unset] [(.int (0 : Int32))]))
  refine Go.step (fun _ k => XS.istore X1.here hx rfl (hb hby d1_7) rfl (l' := #[.val (.int (Int32.ofNat n)), .val (.ref b), .val (.long (1 : Int64)), .second, .val (.int (0 : Int32))]) rfl k) ?_
  show Go _ _ _ _ (T1.setTop (mkF m 9 #[.val (.int (Int32.ofNat n)), .val (.ref b), .val (.long (1 : Int64)), .second, .val (.int (0 : Int32))] []))
  exact loop1 hx hZ hw hby hown hret hlk n0 h0 b n hn (Nat.le_trans Z0 (Nat.le_of_eq g1.symm)) (Nat.le_of_eq g1.symm) (by decide) (by decide) n 0 T1 h1 _ (Nat.zero_add n) X1 e1 (Fr.nil n0) ((Keep.refl h0 []).ext E1) P0
theorem pn0 : plainFor x = true := plainFor_of_name (by first | (simp [plainName, overriddenIn, x]; done) | decide +kernel)
theorem ef0 (m : MethodId) (x0 : Int32) (x1 : Int32) : entryFrame m #[(.int x0), (.int x1)] maxLocals = mkF m 0 #[.val (.int x0), .val (.int x1), .unset, .unset, .unset, .unset] [] := by first | (simp [entryFrame, mkF, argsToLocals, Value.category, maxLocals]; done) | rfl
set_option maxRecDepth 65536 in
set_option maxHeartbeats 40000000 in
theorem rm0 (l : Launch) (Z : State) (a0 : Array Value) (hw : ∀ d ∈ tables_1, d.before a0 Z = true) (ws : List Jvm.Cond) (x0 : Int32) (x1 : Int32) (h0 : Heap) : Con l Z x code maxLocals ret ws room_1 #[(.int x0), (.int x1)] h0 (fun v h L => v = some (.int 1) ∧ Fr h0.size L) := by
  refine Con.of pn0 fun p e s m below meth c s₁ hZ hx hby hml hown hret hlk hnm X0 e0 => ?_
  rw [ef0]
  show Go _ _ _ _ (s₁.setTop (mkF m 0 #[.val (.int x0), .val (.int x1), .unset, .unset, .unset, .unset] []))
  refine Go.step (fun _ k => XS.bipush X0.here hx rfl (hb hby at_0) k) ?_
  show Go _ _ _ _ (s₁.setTop (mkF m 2 #[.val (.int x0), .val (.int x1), .unset, .unset, .unset, .unset] [(.int (19 : Int32))]))
  obtain ⟨T1, h1, k1, X1, e1, E1, A1, st1⟩ := newP X0 hx hZ (hw _ (List.mem_of_getElem? (i := 0) rfl)) e0 (g := (mkF m 2 #[.val (.int x0), .val (.int x1), .unset, .unset, .unset, .unset] [(.int (19 : Int32))])) rfl (hb hby at_2) rfl (by decide) (cap := 19) (by decide) (by decide) (by decide) (by decide)
  obtain ⟨b1, g1⟩ : ∃ z, z = h0.size := ⟨_, rfl⟩
  rw [← g1] at A1 st1
  have V_b1 : Arv Z h1 b1 k1 .long (19 : Int32) [(.long (0 : Int64)), (.long (0 : Int64)), (.long (0 : Int64)), (.long (0 : Int64)), (.long (0 : Int64)), (.long (0 : Int64)), (.long (0 : Int64)), (.long (0 : Int64)), (.long (0 : Int64)), (.long (0 : Int64)), (.long (0 : Int64)), (.long (0 : Int64)), (.long (0 : Int64)), (.long (0 : Int64)), (.long (0 : Int64)), (.long (0 : Int64)), (.long (0 : Int64)), (.long (0 : Int64)), (.long (0 : Int64))] (.long (0 : Int64)) := (Arv.new A1 (by decide)).pad (pad_rep [] (.long (0 : Int64)) 19)
  have gb_b1 : h0.size ≤ b1 := Nat.le_trans (Nat.le_refl _) (Nat.le_of_eq g1.symm)
  refine Go.step st1 ?_
  show Go _ _ _ _ (T1.setTop (mkF m 4 #[.val (.int x0), .val (.int x1), .unset, .unset, .unset, .unset] [(.ref b1)]))
  refine Go.step (fun _ k => XS.dup X1.here hx rfl (hb hby at_4) rfl rfl k) ?_
  show Go _ _ _ _ (T1.setTop (mkF m 5 #[.val (.int x0), .val (.int x1), .unset, .unset, .unset, .unset] [(.ref b1), (.ref b1)]))
  refine Go.step (fun _ k => XS.iconst X1.here hx rfl (hb hby at_5) k) ?_
  show Go _ _ _ _ (T1.setTop (mkF m 6 #[.val (.int x0), .val (.int x1), .unset, .unset, .unset, .unset] [(.int (0 : Int32)), (.ref b1), (.ref b1)]))
  refine Go.step (fun _ k => XS.lconst X1.here hx rfl (hb hby at_6) k) ?_
  show Go _ _ _ _ (T1.setTop (mkF m 7 #[.val (.int x0), .val (.int x1), .unset, .unset, .unset, .unset] [(.long (1 : Int64)), (.int (0 : Int32)), (.ref b1), (.ref b1)]))
  obtain ⟨cl2, Ar2, q2, S2, N2, H2, G2⟩ := V_b1
  obtain ⟨T2, h2, X2, e2, W2, st2⟩ := stJ X1 hx hZ e1 Ar2 (j := (0 : Int32)) (inb_of S2 ⟨by decide, by decide⟩) (g := (mkF m 7 #[.val (.int x0), .val (.int x1), .unset, .unset, .unset, .unset] [(.long (1 : Int64)), (.int (0 : Int32)), (.ref b1), (.ref b1)])) rfl rfl (hb hby at_7)
  have V_b1_2 := Arv.set Ar2 q2 S2 N2 H2 G2 rfl W2 0 rfl (Nat.le_of_ble_eq_true rfl)
  have NF2 := Fr.snoc X2 (Fr.nil h0.size) gb_b1
  refine Go.step st2 ?_
  show Go _ _ _ _ (T2.setTop (mkF m 8 #[.val (.int x0), .val (.int x1), .unset, .unset, .unset, .unset] [(.ref b1)]))
  refine Go.step (fun _ k => XS.dup X2.here hx rfl (hb hby at_8) rfl rfl k) ?_
  show Go _ _ _ _ (T2.setTop (mkF m 9 #[.val (.int x0), .val (.int x1), .unset, .unset, .unset, .unset] [(.ref b1), (.ref b1)]))
  refine Go.step (fun _ k => XS.iconst X2.here hx rfl (hb hby at_9) k) ?_
  show Go _ _ _ _ (T2.setTop (mkF m 10 #[.val (.int x0), .val (.int x1), .unset, .unset, .unset, .unset] [(.int (1 : Int32)), (.ref b1), (.ref b1)]))
  refine Go.step (X2.ldc2Long hx hown (mvT hZ (hw _ (List.mem_of_getElem? (i := 1) rfl))) (g := (mkF m 10 #[.val (.int x0), .val (.int x1), .unset, .unset, .unset, .unset] [(.int (1 : Int32)), (.ref b1), (.ref b1)])) rfl (hb hby at_10)) ?_
  show Go _ _ _ _ (T2.setTop (mkF m 13 #[.val (.int x0), .val (.int x1), .unset, .unset, .unset, .unset] [(.long (10 : Int64)), (.int (1 : Int32)), (.ref b1), (.ref b1)]))
  obtain ⟨cl3, Ar3, q3, S3, N3, H3, G3⟩ := V_b1_2
  obtain ⟨T3, h3, X3, e3, W3, st3⟩ := stJ X2 hx hZ e2 Ar3 (j := (1 : Int32)) (inb_of S3 ⟨by decide, by decide⟩) (g := (mkF m 13 #[.val (.int x0), .val (.int x1), .unset, .unset, .unset, .unset] [(.long (10 : Int64)), (.int (1 : Int32)), (.ref b1), (.ref b1)])) rfl rfl (hb hby at_13)
  have V_b1_3 := Arv.set Ar3 q3 S3 N3 H3 G3 rfl W3 1 rfl (Nat.le_of_ble_eq_true rfl)
  have NF3 := Fr.snoc X3 NF2 gb_b1
  refine Go.step st3 ?_
  show Go _ _ _ _ (T3.setTop (mkF m 14 #[.val (.int x0), .val (.int x1), .unset, .unset, .unset, .unset] [(.ref b1)]))
  refine Go.step (fun _ k => XS.dup X3.here hx rfl (hb hby at_14) rfl rfl k) ?_
  show Go _ _ _ _ (T3.setTop (mkF m 15 #[.val (.int x0), .val (.int x1), .unset, .unset, .unset, .unset] [(.ref b1), (.ref b1)]))
  refine Go.step (fun _ k => XS.iconst X3.here hx rfl (hb hby at_15) k) ?_
  show Go _ _ _ _ (T3.setTop (mkF m 16 #[.val (.int x0), .val (.int x1), .unset, .unset, .unset, .unset] [(.int (2 : Int32)), (.ref b1), (.ref b1)]))
  refine Go.step (X3.ldc2Long hx hown (mvT hZ (hw _ (List.mem_of_getElem? (i := 2) rfl))) (g := (mkF m 16 #[.val (.int x0), .val (.int x1), .unset, .unset, .unset, .unset] [(.int (2 : Int32)), (.ref b1), (.ref b1)])) rfl (hb hby at_16)) ?_
  show Go _ _ _ _ (T3.setTop (mkF m 19 #[.val (.int x0), .val (.int x1), .unset, .unset, .unset, .unset] [(.long (100 : Int64)), (.int (2 : Int32)), (.ref b1), (.ref b1)]))
  obtain ⟨cl4, Ar4, q4, S4, N4, H4, G4⟩ := V_b1_3
  obtain ⟨T4, h4, X4, e4, W4, st4⟩ := stJ X3 hx hZ e3 Ar4 (j := (2 : Int32)) (inb_of S4 ⟨by decide, by decide⟩) (g := (mkF m 19 #[.val (.int x0), .val (.int x1), .unset, .unset, .unset, .unset] [(.long (100 : Int64)), (.int (2 : Int32)), (.ref b1), (.ref b1)])) rfl rfl (hb hby at_19)
  have V_b1_4 := Arv.set Ar4 q4 S4 N4 H4 G4 rfl W4 2 rfl (Nat.le_of_ble_eq_true rfl)
  have NF4 := Fr.snoc X4 NF3 gb_b1
  refine Go.step st4 ?_
  show Go _ _ _ _ (T4.setTop (mkF m 20 #[.val (.int x0), .val (.int x1), .unset, .unset, .unset, .unset] [(.ref b1)]))
  refine Go.step (fun _ k => XS.dup X4.here hx rfl (hb hby at_20) rfl rfl k) ?_
  show Go _ _ _ _ (T4.setTop (mkF m 21 #[.val (.int x0), .val (.int x1), .unset, .unset, .unset, .unset] [(.ref b1), (.ref b1)]))
  refine Go.step (fun _ k => XS.iconst X4.here hx rfl (hb hby at_21) k) ?_
  show Go _ _ _ _ (T4.setTop (mkF m 22 #[.val (.int x0), .val (.int x1), .unset, .unset, .unset, .unset] [(.int (3 : Int32)), (.ref b1), (.ref b1)]))
  refine Go.step (X4.ldc2Long hx hown (mvT hZ (hw _ (List.mem_of_getElem? (i := 3) rfl))) (g := (mkF m 22 #[.val (.int x0), .val (.int x1), .unset, .unset, .unset, .unset] [(.int (3 : Int32)), (.ref b1), (.ref b1)])) rfl (hb hby at_22)) ?_
  show Go _ _ _ _ (T4.setTop (mkF m 25 #[.val (.int x0), .val (.int x1), .unset, .unset, .unset, .unset] [(.long (1000 : Int64)), (.int (3 : Int32)), (.ref b1), (.ref b1)]))
  obtain ⟨cl5, Ar5, q5, S5, N5, H5, G5⟩ := V_b1_4
  obtain ⟨T5, h5, X5, e5, W5, st5⟩ := stJ X4 hx hZ e4 Ar5 (j := (3 : Int32)) (inb_of S5 ⟨by decide, by decide⟩) (g := (mkF m 25 #[.val (.int x0), .val (.int x1), .unset, .unset, .unset, .unset] [(.long (1000 : Int64)), (.int (3 : Int32)), (.ref b1), (.ref b1)])) rfl rfl (hb hby at_25)
  have V_b1_5 := Arv.set Ar5 q5 S5 N5 H5 G5 rfl W5 3 rfl (Nat.le_of_ble_eq_true rfl)
  have NF5 := Fr.snoc X5 NF4 gb_b1
  refine Go.step st5 ?_
  show Go _ _ _ _ (T5.setTop (mkF m 26 #[.val (.int x0), .val (.int x1), .unset, .unset, .unset, .unset] [(.ref b1)]))
  refine Go.step (fun _ k => XS.dup X5.here hx rfl (hb hby at_26) rfl rfl k) ?_
  show Go _ _ _ _ (T5.setTop (mkF m 27 #[.val (.int x0), .val (.int x1), .unset, .unset, .unset, .unset] [(.ref b1), (.ref b1)]))
  refine Go.step (fun _ k => XS.iconst X5.here hx rfl (hb hby at_27) k) ?_
  show Go _ _ _ _ (T5.setTop (mkF m 28 #[.val (.int x0), .val (.int x1), .unset, .unset, .unset, .unset] [(.int (4 : Int32)), (.ref b1), (.ref b1)]))
  refine Go.step (X5.ldc2Long hx hown (mvT hZ (hw _ (List.mem_of_getElem? (i := 4) rfl))) (g := (mkF m 28 #[.val (.int x0), .val (.int x1), .unset, .unset, .unset, .unset] [(.int (4 : Int32)), (.ref b1), (.ref b1)])) rfl (hb hby at_28)) ?_
  show Go _ _ _ _ (T5.setTop (mkF m 31 #[.val (.int x0), .val (.int x1), .unset, .unset, .unset, .unset] [(.long (10000 : Int64)), (.int (4 : Int32)), (.ref b1), (.ref b1)]))
  obtain ⟨cl6, Ar6, q6, S6, N6, H6, G6⟩ := V_b1_5
  obtain ⟨T6, h6, X6, e6, W6, st6⟩ := stJ X5 hx hZ e5 Ar6 (j := (4 : Int32)) (inb_of S6 ⟨by decide, by decide⟩) (g := (mkF m 31 #[.val (.int x0), .val (.int x1), .unset, .unset, .unset, .unset] [(.long (10000 : Int64)), (.int (4 : Int32)), (.ref b1), (.ref b1)])) rfl rfl (hb hby at_31)
  have V_b1_6 := Arv.set Ar6 q6 S6 N6 H6 G6 rfl W6 4 rfl (Nat.le_of_ble_eq_true rfl)
  have NF6 := Fr.snoc X6 NF5 gb_b1
  refine Go.step st6 ?_
  show Go _ _ _ _ (T6.setTop (mkF m 32 #[.val (.int x0), .val (.int x1), .unset, .unset, .unset, .unset] [(.ref b1)]))
  refine Go.step (fun _ k => XS.dup X6.here hx rfl (hb hby at_32) rfl rfl k) ?_
  show Go _ _ _ _ (T6.setTop (mkF m 33 #[.val (.int x0), .val (.int x1), .unset, .unset, .unset, .unset] [(.ref b1), (.ref b1)]))
  refine Go.step (fun _ k => XS.iconst X6.here hx rfl (hb hby at_33) k) ?_
  show Go _ _ _ _ (T6.setTop (mkF m 34 #[.val (.int x0), .val (.int x1), .unset, .unset, .unset, .unset] [(.int (5 : Int32)), (.ref b1), (.ref b1)]))
  refine Go.step (X6.ldc2Long hx hown (mvT hZ (hw _ (List.mem_of_getElem? (i := 5) rfl))) (g := (mkF m 34 #[.val (.int x0), .val (.int x1), .unset, .unset, .unset, .unset] [(.int (5 : Int32)), (.ref b1), (.ref b1)])) rfl (hb hby at_34)) ?_
  show Go _ _ _ _ (T6.setTop (mkF m 37 #[.val (.int x0), .val (.int x1), .unset, .unset, .unset, .unset] [(.long (100000 : Int64)), (.int (5 : Int32)), (.ref b1), (.ref b1)]))
  obtain ⟨cl7, Ar7, q7, S7, N7, H7, G7⟩ := V_b1_6
  obtain ⟨T7, h7, X7, e7, W7, st7⟩ := stJ X6 hx hZ e6 Ar7 (j := (5 : Int32)) (inb_of S7 ⟨by decide, by decide⟩) (g := (mkF m 37 #[.val (.int x0), .val (.int x1), .unset, .unset, .unset, .unset] [(.long (100000 : Int64)), (.int (5 : Int32)), (.ref b1), (.ref b1)])) rfl rfl (hb hby at_37)
  have V_b1_7 := Arv.set Ar7 q7 S7 N7 H7 G7 rfl W7 5 rfl (Nat.le_of_ble_eq_true rfl)
  have NF7 := Fr.snoc X7 NF6 gb_b1
  refine Go.step st7 ?_
  show Go _ _ _ _ (T7.setTop (mkF m 38 #[.val (.int x0), .val (.int x1), .unset, .unset, .unset, .unset] [(.ref b1)]))
  refine Go.step (fun _ k => XS.dup X7.here hx rfl (hb hby at_38) rfl rfl k) ?_
  show Go _ _ _ _ (T7.setTop (mkF m 39 #[.val (.int x0), .val (.int x1), .unset, .unset, .unset, .unset] [(.ref b1), (.ref b1)]))
  refine Go.step (fun _ k => XS.bipush X7.here hx rfl (hb hby at_39) k) ?_
  show Go _ _ _ _ (T7.setTop (mkF m 41 #[.val (.int x0), .val (.int x1), .unset, .unset, .unset, .unset] [(.int (6 : Int32)), (.ref b1), (.ref b1)]))
  refine Go.step (X7.ldc2Long hx hown (mvT hZ (hw _ (List.mem_of_getElem? (i := 6) rfl))) (g := (mkF m 41 #[.val (.int x0), .val (.int x1), .unset, .unset, .unset, .unset] [(.int (6 : Int32)), (.ref b1), (.ref b1)])) rfl (hb hby at_41)) ?_
  show Go _ _ _ _ (T7.setTop (mkF m 44 #[.val (.int x0), .val (.int x1), .unset, .unset, .unset, .unset] [(.long (1000000 : Int64)), (.int (6 : Int32)), (.ref b1), (.ref b1)]))
  obtain ⟨cl8, Ar8, q8, S8, N8, H8, G8⟩ := V_b1_7
  obtain ⟨T8, h8, X8, e8, W8, st8⟩ := stJ X7 hx hZ e7 Ar8 (j := (6 : Int32)) (inb_of S8 ⟨by decide, by decide⟩) (g := (mkF m 44 #[.val (.int x0), .val (.int x1), .unset, .unset, .unset, .unset] [(.long (1000000 : Int64)), (.int (6 : Int32)), (.ref b1), (.ref b1)])) rfl rfl (hb hby at_44)
  have V_b1_8 := Arv.set Ar8 q8 S8 N8 H8 G8 rfl W8 6 rfl (Nat.le_of_ble_eq_true rfl)
  have NF8 := Fr.snoc X8 NF7 gb_b1
  refine Go.step st8 ?_
  show Go _ _ _ _ (T8.setTop (mkF m 45 #[.val (.int x0), .val (.int x1), .unset, .unset, .unset, .unset] [(.ref b1)]))
  refine Go.step (fun _ k => XS.dup X8.here hx rfl (hb hby at_45) rfl rfl k) ?_
  show Go _ _ _ _ (T8.setTop (mkF m 46 #[.val (.int x0), .val (.int x1), .unset, .unset, .unset, .unset] [(.ref b1), (.ref b1)]))
  refine Go.step (fun _ k => XS.bipush X8.here hx rfl (hb hby at_46) k) ?_
  show Go _ _ _ _ (T8.setTop (mkF m 48 #[.val (.int x0), .val (.int x1), .unset, .unset, .unset, .unset] [(.int (7 : Int32)), (.ref b1), (.ref b1)]))
  refine Go.step (X8.ldc2Long hx hown (mvT hZ (hw _ (List.mem_of_getElem? (i := 7) rfl))) (g := (mkF m 48 #[.val (.int x0), .val (.int x1), .unset, .unset, .unset, .unset] [(.int (7 : Int32)), (.ref b1), (.ref b1)])) rfl (hb hby at_48)) ?_
  show Go _ _ _ _ (T8.setTop (mkF m 51 #[.val (.int x0), .val (.int x1), .unset, .unset, .unset, .unset] [(.long (10000000 : Int64)), (.int (7 : Int32)), (.ref b1), (.ref b1)]))
  obtain ⟨cl9, Ar9, q9, S9, N9, H9, G9⟩ := V_b1_8
  obtain ⟨T9, h9, X9, e9, W9, st9⟩ := stJ X8 hx hZ e8 Ar9 (j := (7 : Int32)) (inb_of S9 ⟨by decide, by decide⟩) (g := (mkF m 51 #[.val (.int x0), .val (.int x1), .unset, .unset, .unset, .unset] [(.long (10000000 : Int64)), (.int (7 : Int32)), (.ref b1), (.ref b1)])) rfl rfl (hb hby at_51)
  have V_b1_9 := Arv.set Ar9 q9 S9 N9 H9 G9 rfl W9 7 rfl (Nat.le_of_ble_eq_true rfl)
  have NF9 := Fr.snoc X9 NF8 gb_b1
  refine Go.step st9 ?_
  show Go _ _ _ _ (T9.setTop (mkF m 52 #[.val (.int x0), .val (.int x1), .unset, .unset, .unset, .unset] [(.ref b1)]))
  refine Go.step (fun _ k => XS.dup X9.here hx rfl (hb hby at_52) rfl rfl k) ?_
  show Go _ _ _ _ (T9.setTop (mkF m 53 #[.val (.int x0), .val (.int x1), .unset, .unset, .unset, .unset] [(.ref b1), (.ref b1)]))
  refine Go.step (fun _ k => XS.bipush X9.here hx rfl (hb hby at_53) k) ?_
  show Go _ _ _ _ (T9.setTop (mkF m 55 #[.val (.int x0), .val (.int x1), .unset, .unset, .unset, .unset] [(.int (8 : Int32)), (.ref b1), (.ref b1)]))
  refine Go.step (X9.ldc2Long hx hown (mvT hZ (hw _ (List.mem_of_getElem? (i := 8) rfl))) (g := (mkF m 55 #[.val (.int x0), .val (.int x1), .unset, .unset, .unset, .unset] [(.int (8 : Int32)), (.ref b1), (.ref b1)])) rfl (hb hby at_55)) ?_
  show Go _ _ _ _ (T9.setTop (mkF m 58 #[.val (.int x0), .val (.int x1), .unset, .unset, .unset, .unset] [(.long (100000000 : Int64)), (.int (8 : Int32)), (.ref b1), (.ref b1)]))
  obtain ⟨cl10, Ar10, q10, S10, N10, H10, G10⟩ := V_b1_9
  obtain ⟨T10, h10, X10, e10, W10, st10⟩ := stJ X9 hx hZ e9 Ar10 (j := (8 : Int32)) (inb_of S10 ⟨by decide, by decide⟩) (g := (mkF m 58 #[.val (.int x0), .val (.int x1), .unset, .unset, .unset, .unset] [(.long (100000000 : Int64)), (.int (8 : Int32)), (.ref b1), (.ref b1)])) rfl rfl (hb hby at_58)
  have V_b1_10 := Arv.set Ar10 q10 S10 N10 H10 G10 rfl W10 8 rfl (Nat.le_of_ble_eq_true rfl)
  have NF10 := Fr.snoc X10 NF9 gb_b1
  refine Go.step st10 ?_
  show Go _ _ _ _ (T10.setTop (mkF m 59 #[.val (.int x0), .val (.int x1), .unset, .unset, .unset, .unset] [(.ref b1)]))
  refine Go.step (fun _ k => XS.dup X10.here hx rfl (hb hby at_59) rfl rfl k) ?_
  show Go _ _ _ _ (T10.setTop (mkF m 60 #[.val (.int x0), .val (.int x1), .unset, .unset, .unset, .unset] [(.ref b1), (.ref b1)]))
  refine Go.step (fun _ k => XS.bipush X10.here hx rfl (hb hby at_60) k) ?_
  show Go _ _ _ _ (T10.setTop (mkF m 62 #[.val (.int x0), .val (.int x1), .unset, .unset, .unset, .unset] [(.int (9 : Int32)), (.ref b1), (.ref b1)]))
  refine Go.step (X10.ldc2Long hx hown (mvT hZ (hw _ (List.mem_of_getElem? (i := 9) rfl))) (g := (mkF m 62 #[.val (.int x0), .val (.int x1), .unset, .unset, .unset, .unset] [(.int (9 : Int32)), (.ref b1), (.ref b1)])) rfl (hb hby at_62)) ?_
  show Go _ _ _ _ (T10.setTop (mkF m 65 #[.val (.int x0), .val (.int x1), .unset, .unset, .unset, .unset] [(.long (1000000000 : Int64)), (.int (9 : Int32)), (.ref b1), (.ref b1)]))
  obtain ⟨cl11, Ar11, q11, S11, N11, H11, G11⟩ := V_b1_10
  obtain ⟨T11, h11, X11, e11, W11, st11⟩ := stJ X10 hx hZ e10 Ar11 (j := (9 : Int32)) (inb_of S11 ⟨by decide, by decide⟩) (g := (mkF m 65 #[.val (.int x0), .val (.int x1), .unset, .unset, .unset, .unset] [(.long (1000000000 : Int64)), (.int (9 : Int32)), (.ref b1), (.ref b1)])) rfl rfl (hb hby at_65)
  have V_b1_11 := Arv.set Ar11 q11 S11 N11 H11 G11 rfl W11 9 rfl (Nat.le_of_ble_eq_true rfl)
  have NF11 := Fr.snoc X11 NF10 gb_b1
  refine Go.step st11 ?_
  show Go _ _ _ _ (T11.setTop (mkF m 66 #[.val (.int x0), .val (.int x1), .unset, .unset, .unset, .unset] [(.ref b1)]))
  refine Go.step (fun _ k => XS.dup X11.here hx rfl (hb hby at_66) rfl rfl k) ?_
  show Go _ _ _ _ (T11.setTop (mkF m 67 #[.val (.int x0), .val (.int x1), .unset, .unset, .unset, .unset] [(.ref b1), (.ref b1)]))
  refine Go.step (fun _ k => XS.bipush X11.here hx rfl (hb hby at_67) k) ?_
  show Go _ _ _ _ (T11.setTop (mkF m 69 #[.val (.int x0), .val (.int x1), .unset, .unset, .unset, .unset] [(.int (10 : Int32)), (.ref b1), (.ref b1)]))
  refine Go.step (X11.ldc2Long hx hown (mvT hZ (hw _ (List.mem_of_getElem? (i := 10) rfl))) (g := (mkF m 69 #[.val (.int x0), .val (.int x1), .unset, .unset, .unset, .unset] [(.int (10 : Int32)), (.ref b1), (.ref b1)])) rfl (hb hby at_69)) ?_
  show Go _ _ _ _ (T11.setTop (mkF m 72 #[.val (.int x0), .val (.int x1), .unset, .unset, .unset, .unset] [(.long (10000000000 : Int64)), (.int (10 : Int32)), (.ref b1), (.ref b1)]))
  obtain ⟨cl12, Ar12, q12, S12, N12, H12, G12⟩ := V_b1_11
  obtain ⟨T12, h12, X12, e12, W12, st12⟩ := stJ X11 hx hZ e11 Ar12 (j := (10 : Int32)) (inb_of S12 ⟨by decide, by decide⟩) (g := (mkF m 72 #[.val (.int x0), .val (.int x1), .unset, .unset, .unset, .unset] [(.long (10000000000 : Int64)), (.int (10 : Int32)), (.ref b1), (.ref b1)])) rfl rfl (hb hby at_72)
  have V_b1_12 := Arv.set Ar12 q12 S12 N12 H12 G12 rfl W12 10 rfl (Nat.le_of_ble_eq_true rfl)
  have NF12 := Fr.snoc X12 NF11 gb_b1
  refine Go.step st12 ?_
  show Go _ _ _ _ (T12.setTop (mkF m 73 #[.val (.int x0), .val (.int x1), .unset, .unset, .unset, .unset] [(.ref b1)]))
  refine Go.step (fun _ k => XS.dup X12.here hx rfl (hb hby at_73) rfl rfl k) ?_
  show Go _ _ _ _ (T12.setTop (mkF m 74 #[.val (.int x0), .val (.int x1), .unset, .unset, .unset, .unset] [(.ref b1), (.ref b1)]))
  refine Go.step (fun _ k => XS.bipush X12.here hx rfl (hb hby at_74) k) ?_
  show Go _ _ _ _ (T12.setTop (mkF m 76 #[.val (.int x0), .val (.int x1), .unset, .unset, .unset, .unset] [(.int (11 : Int32)), (.ref b1), (.ref b1)]))
  refine Go.step (X12.ldc2Long hx hown (mvT hZ (hw _ (List.mem_of_getElem? (i := 11) rfl))) (g := (mkF m 76 #[.val (.int x0), .val (.int x1), .unset, .unset, .unset, .unset] [(.int (11 : Int32)), (.ref b1), (.ref b1)])) rfl (hb hby at_76)) ?_
  show Go _ _ _ _ (T12.setTop (mkF m 79 #[.val (.int x0), .val (.int x1), .unset, .unset, .unset, .unset] [(.long (100000000000 : Int64)), (.int (11 : Int32)), (.ref b1), (.ref b1)]))
  obtain ⟨cl13, Ar13, q13, S13, N13, H13, G13⟩ := V_b1_12
  obtain ⟨T13, h13, X13, e13, W13, st13⟩ := stJ X12 hx hZ e12 Ar13 (j := (11 : Int32)) (inb_of S13 ⟨by decide, by decide⟩) (g := (mkF m 79 #[.val (.int x0), .val (.int x1), .unset, .unset, .unset, .unset] [(.long (100000000000 : Int64)), (.int (11 : Int32)), (.ref b1), (.ref b1)])) rfl rfl (hb hby at_79)
  have V_b1_13 := Arv.set Ar13 q13 S13 N13 H13 G13 rfl W13 11 rfl (Nat.le_of_ble_eq_true rfl)
  have NF13 := Fr.snoc X13 NF12 gb_b1
  refine Go.step st13 ?_
  show Go _ _ _ _ (T13.setTop (mkF m 80 #[.val (.int x0), .val (.int x1), .unset, .unset, .unset, .unset] [(.ref b1)]))
  refine Go.step (fun _ k => XS.dup X13.here hx rfl (hb hby at_80) rfl rfl k) ?_
  show Go _ _ _ _ (T13.setTop (mkF m 81 #[.val (.int x0), .val (.int x1), .unset, .unset, .unset, .unset] [(.ref b1), (.ref b1)]))
  refine Go.step (fun _ k => XS.bipush X13.here hx rfl (hb hby at_81) k) ?_
  show Go _ _ _ _ (T13.setTop (mkF m 83 #[.val (.int x0), .val (.int x1), .unset, .unset, .unset, .unset] [(.int (12 : Int32)), (.ref b1), (.ref b1)]))
  refine Go.step (X13.ldc2Long hx hown (mvT hZ (hw _ (List.mem_of_getElem? (i := 12) rfl))) (g := (mkF m 83 #[.val (.int x0), .val (.int x1), .unset, .unset, .unset, .unset] [(.int (12 : Int32)), (.ref b1), (.ref b1)])) rfl (hb hby at_83)) ?_
  show Go _ _ _ _ (T13.setTop (mkF m 86 #[.val (.int x0), .val (.int x1), .unset, .unset, .unset, .unset] [(.long (1000000000000 : Int64)), (.int (12 : Int32)), (.ref b1), (.ref b1)]))
  obtain ⟨cl14, Ar14, q14, S14, N14, H14, G14⟩ := V_b1_13
  obtain ⟨T14, h14, X14, e14, W14, st14⟩ := stJ X13 hx hZ e13 Ar14 (j := (12 : Int32)) (inb_of S14 ⟨by decide, by decide⟩) (g := (mkF m 86 #[.val (.int x0), .val (.int x1), .unset, .unset, .unset, .unset] [(.long (1000000000000 : Int64)), (.int (12 : Int32)), (.ref b1), (.ref b1)])) rfl rfl (hb hby at_86)
  have V_b1_14 := Arv.set Ar14 q14 S14 N14 H14 G14 rfl W14 12 rfl (Nat.le_of_ble_eq_true rfl)
  have NF14 := Fr.snoc X14 NF13 gb_b1
  refine Go.step st14 ?_
  show Go _ _ _ _ (T14.setTop (mkF m 87 #[.val (.int x0), .val (.int x1), .unset, .unset, .unset, .unset] [(.ref b1)]))
  refine Go.step (fun _ k => XS.dup X14.here hx rfl (hb hby at_87) rfl rfl k) ?_
  show Go _ _ _ _ (T14.setTop (mkF m 88 #[.val (.int x0), .val (.int x1), .unset, .unset, .unset, .unset] [(.ref b1), (.ref b1)]))
  refine Go.step (fun _ k => XS.bipush X14.here hx rfl (hb hby at_88) k) ?_
  show Go _ _ _ _ (T14.setTop (mkF m 90 #[.val (.int x0), .val (.int x1), .unset, .unset, .unset, .unset] [(.int (13 : Int32)), (.ref b1), (.ref b1)]))
  refine Go.step (X14.ldc2Long hx hown (mvT hZ (hw _ (List.mem_of_getElem? (i := 13) rfl))) (g := (mkF m 90 #[.val (.int x0), .val (.int x1), .unset, .unset, .unset, .unset] [(.int (13 : Int32)), (.ref b1), (.ref b1)])) rfl (hb hby at_90)) ?_
  show Go _ _ _ _ (T14.setTop (mkF m 93 #[.val (.int x0), .val (.int x1), .unset, .unset, .unset, .unset] [(.long (10000000000000 : Int64)), (.int (13 : Int32)), (.ref b1), (.ref b1)]))
  obtain ⟨cl15, Ar15, q15, S15, N15, H15, G15⟩ := V_b1_14
  obtain ⟨T15, h15, X15, e15, W15, st15⟩ := stJ X14 hx hZ e14 Ar15 (j := (13 : Int32)) (inb_of S15 ⟨by decide, by decide⟩) (g := (mkF m 93 #[.val (.int x0), .val (.int x1), .unset, .unset, .unset, .unset] [(.long (10000000000000 : Int64)), (.int (13 : Int32)), (.ref b1), (.ref b1)])) rfl rfl (hb hby at_93)
  have V_b1_15 := Arv.set Ar15 q15 S15 N15 H15 G15 rfl W15 13 rfl (Nat.le_of_ble_eq_true rfl)
  have NF15 := Fr.snoc X15 NF14 gb_b1
  refine Go.step st15 ?_
  show Go _ _ _ _ (T15.setTop (mkF m 94 #[.val (.int x0), .val (.int x1), .unset, .unset, .unset, .unset] [(.ref b1)]))
  refine Go.step (fun _ k => XS.dup X15.here hx rfl (hb hby at_94) rfl rfl k) ?_
  show Go _ _ _ _ (T15.setTop (mkF m 95 #[.val (.int x0), .val (.int x1), .unset, .unset, .unset, .unset] [(.ref b1), (.ref b1)]))
  refine Go.step (fun _ k => XS.bipush X15.here hx rfl (hb hby at_95) k) ?_
  show Go _ _ _ _ (T15.setTop (mkF m 97 #[.val (.int x0), .val (.int x1), .unset, .unset, .unset, .unset] [(.int (14 : Int32)), (.ref b1), (.ref b1)]))
  refine Go.step (X15.ldc2Long hx hown (mvT hZ (hw _ (List.mem_of_getElem? (i := 14) rfl))) (g := (mkF m 97 #[.val (.int x0), .val (.int x1), .unset, .unset, .unset, .unset] [(.int (14 : Int32)), (.ref b1), (.ref b1)])) rfl (hb hby at_97)) ?_
  show Go _ _ _ _ (T15.setTop (mkF m 100 #[.val (.int x0), .val (.int x1), .unset, .unset, .unset, .unset] [(.long (100000000000000 : Int64)), (.int (14 : Int32)), (.ref b1), (.ref b1)]))
  obtain ⟨cl16, Ar16, q16, S16, N16, H16, G16⟩ := V_b1_15
  obtain ⟨T16, h16, X16, e16, W16, st16⟩ := stJ X15 hx hZ e15 Ar16 (j := (14 : Int32)) (inb_of S16 ⟨by decide, by decide⟩) (g := (mkF m 100 #[.val (.int x0), .val (.int x1), .unset, .unset, .unset, .unset] [(.long (100000000000000 : Int64)), (.int (14 : Int32)), (.ref b1), (.ref b1)])) rfl rfl (hb hby at_100)
  have V_b1_16 := Arv.set Ar16 q16 S16 N16 H16 G16 rfl W16 14 rfl (Nat.le_of_ble_eq_true rfl)
  have NF16 := Fr.snoc X16 NF15 gb_b1
  refine Go.step st16 ?_
  show Go _ _ _ _ (T16.setTop (mkF m 101 #[.val (.int x0), .val (.int x1), .unset, .unset, .unset, .unset] [(.ref b1)]))
  refine Go.step (fun _ k => XS.dup X16.here hx rfl (hb hby at_101) rfl rfl k) ?_
  show Go _ _ _ _ (T16.setTop (mkF m 102 #[.val (.int x0), .val (.int x1), .unset, .unset, .unset, .unset] [(.ref b1), (.ref b1)]))
  refine Go.step (fun _ k => XS.bipush X16.here hx rfl (hb hby at_102) k) ?_
  show Go _ _ _ _ (T16.setTop (mkF m 104 #[.val (.int x0), .val (.int x1), .unset, .unset, .unset, .unset] [(.int (15 : Int32)), (.ref b1), (.ref b1)]))
  refine Go.step (X16.ldc2Long hx hown (mvT hZ (hw _ (List.mem_of_getElem? (i := 15) rfl))) (g := (mkF m 104 #[.val (.int x0), .val (.int x1), .unset, .unset, .unset, .unset] [(.int (15 : Int32)), (.ref b1), (.ref b1)])) rfl (hb hby at_104)) ?_
  show Go _ _ _ _ (T16.setTop (mkF m 107 #[.val (.int x0), .val (.int x1), .unset, .unset, .unset, .unset] [(.long (1000000000000000 : Int64)), (.int (15 : Int32)), (.ref b1), (.ref b1)]))
  obtain ⟨cl17, Ar17, q17, S17, N17, H17, G17⟩ := V_b1_16
  obtain ⟨T17, h17, X17, e17, W17, st17⟩ := stJ X16 hx hZ e16 Ar17 (j := (15 : Int32)) (inb_of S17 ⟨by decide, by decide⟩) (g := (mkF m 107 #[.val (.int x0), .val (.int x1), .unset, .unset, .unset, .unset] [(.long (1000000000000000 : Int64)), (.int (15 : Int32)), (.ref b1), (.ref b1)])) rfl rfl (hb hby at_107)
  have V_b1_17 := Arv.set Ar17 q17 S17 N17 H17 G17 rfl W17 15 rfl (Nat.le_of_ble_eq_true rfl)
  have NF17 := Fr.snoc X17 NF16 gb_b1
  refine Go.step st17 ?_
  show Go _ _ _ _ (T17.setTop (mkF m 108 #[.val (.int x0), .val (.int x1), .unset, .unset, .unset, .unset] [(.ref b1)]))
  refine Go.step (fun _ k => XS.dup X17.here hx rfl (hb hby at_108) rfl rfl k) ?_
  show Go _ _ _ _ (T17.setTop (mkF m 109 #[.val (.int x0), .val (.int x1), .unset, .unset, .unset, .unset] [(.ref b1), (.ref b1)]))
  refine Go.step (fun _ k => XS.bipush X17.here hx rfl (hb hby at_109) k) ?_
  show Go _ _ _ _ (T17.setTop (mkF m 111 #[.val (.int x0), .val (.int x1), .unset, .unset, .unset, .unset] [(.int (16 : Int32)), (.ref b1), (.ref b1)]))
  refine Go.step (X17.ldc2Long hx hown (mvT hZ (hw _ (List.mem_of_getElem? (i := 16) rfl))) (g := (mkF m 111 #[.val (.int x0), .val (.int x1), .unset, .unset, .unset, .unset] [(.int (16 : Int32)), (.ref b1), (.ref b1)])) rfl (hb hby at_111)) ?_
  show Go _ _ _ _ (T17.setTop (mkF m 114 #[.val (.int x0), .val (.int x1), .unset, .unset, .unset, .unset] [(.long (10000000000000000 : Int64)), (.int (16 : Int32)), (.ref b1), (.ref b1)]))
  obtain ⟨cl18, Ar18, q18, S18, N18, H18, G18⟩ := V_b1_17
  obtain ⟨T18, h18, X18, e18, W18, st18⟩ := stJ X17 hx hZ e17 Ar18 (j := (16 : Int32)) (inb_of S18 ⟨by decide, by decide⟩) (g := (mkF m 114 #[.val (.int x0), .val (.int x1), .unset, .unset, .unset, .unset] [(.long (10000000000000000 : Int64)), (.int (16 : Int32)), (.ref b1), (.ref b1)])) rfl rfl (hb hby at_114)
  have V_b1_18 := Arv.set Ar18 q18 S18 N18 H18 G18 rfl W18 16 rfl (Nat.le_of_ble_eq_true rfl)
  have NF18 := Fr.snoc X18 NF17 gb_b1
  refine Go.step st18 ?_
  show Go _ _ _ _ (T18.setTop (mkF m 115 #[.val (.int x0), .val (.int x1), .unset, .unset, .unset, .unset] [(.ref b1)]))
  refine Go.step (fun _ k => XS.dup X18.here hx rfl (hb hby at_115) rfl rfl k) ?_
  show Go _ _ _ _ (T18.setTop (mkF m 116 #[.val (.int x0), .val (.int x1), .unset, .unset, .unset, .unset] [(.ref b1), (.ref b1)]))
  refine Go.step (fun _ k => XS.bipush X18.here hx rfl (hb hby at_116) k) ?_
  show Go _ _ _ _ (T18.setTop (mkF m 118 #[.val (.int x0), .val (.int x1), .unset, .unset, .unset, .unset] [(.int (17 : Int32)), (.ref b1), (.ref b1)]))
  refine Go.step (X18.ldc2Long hx hown (mvT hZ (hw _ (List.mem_of_getElem? (i := 17) rfl))) (g := (mkF m 118 #[.val (.int x0), .val (.int x1), .unset, .unset, .unset, .unset] [(.int (17 : Int32)), (.ref b1), (.ref b1)])) rfl (hb hby at_118)) ?_
  show Go _ _ _ _ (T18.setTop (mkF m 121 #[.val (.int x0), .val (.int x1), .unset, .unset, .unset, .unset] [(.long (100000000000000000 : Int64)), (.int (17 : Int32)), (.ref b1), (.ref b1)]))
  obtain ⟨cl19, Ar19, q19, S19, N19, H19, G19⟩ := V_b1_18
  obtain ⟨T19, h19, X19, e19, W19, st19⟩ := stJ X18 hx hZ e18 Ar19 (j := (17 : Int32)) (inb_of S19 ⟨by decide, by decide⟩) (g := (mkF m 121 #[.val (.int x0), .val (.int x1), .unset, .unset, .unset, .unset] [(.long (100000000000000000 : Int64)), (.int (17 : Int32)), (.ref b1), (.ref b1)])) rfl rfl (hb hby at_121)
  have V_b1_19 := Arv.set Ar19 q19 S19 N19 H19 G19 rfl W19 17 rfl (Nat.le_of_ble_eq_true rfl)
  have NF19 := Fr.snoc X19 NF18 gb_b1
  refine Go.step st19 ?_
  show Go _ _ _ _ (T19.setTop (mkF m 122 #[.val (.int x0), .val (.int x1), .unset, .unset, .unset, .unset] [(.ref b1)]))
  refine Go.step (fun _ k => XS.dup X19.here hx rfl (hb hby at_122) rfl rfl k) ?_
  show Go _ _ _ _ (T19.setTop (mkF m 123 #[.val (.int x0), .val (.int x1), .unset, .unset, .unset, .unset] [(.ref b1), (.ref b1)]))
  refine Go.step (fun _ k => XS.bipush X19.here hx rfl (hb hby at_123) k) ?_
  show Go _ _ _ _ (T19.setTop (mkF m 125 #[.val (.int x0), .val (.int x1), .unset, .unset, .unset, .unset] [(.int (18 : Int32)), (.ref b1), (.ref b1)]))
  refine Go.step (X19.ldc2Long hx hown (mvT hZ (hw _ (List.mem_of_getElem? (i := 18) rfl))) (g := (mkF m 125 #[.val (.int x0), .val (.int x1), .unset, .unset, .unset, .unset] [(.int (18 : Int32)), (.ref b1), (.ref b1)])) rfl (hb hby at_125)) ?_
  show Go _ _ _ _ (T19.setTop (mkF m 128 #[.val (.int x0), .val (.int x1), .unset, .unset, .unset, .unset] [(.long (1000000000000000000 : Int64)), (.int (18 : Int32)), (.ref b1), (.ref b1)]))
  obtain ⟨cl20, Ar20, q20, S20, N20, H20, G20⟩ := V_b1_19
  obtain ⟨T20, h20, X20, e20, W20, st20⟩ := stJ X19 hx hZ e19 Ar20 (j := (18 : Int32)) (inb_of S20 ⟨by decide, by decide⟩) (g := (mkF m 128 #[.val (.int x0), .val (.int x1), .unset, .unset, .unset, .unset] [(.long (1000000000000000000 : Int64)), (.int (18 : Int32)), (.ref b1), (.ref b1)])) rfl rfl (hb hby at_128)
  have V_b1_20 := Arv.set Ar20 q20 S20 N20 H20 G20 rfl W20 18 rfl (Nat.le_of_ble_eq_true rfl)
  have NF20 := Fr.snoc X20 NF19 gb_b1
  refine Go.step st20 ?_
  show Go _ _ _ _ (T20.setTop (mkF m 129 #[.val (.int x0), .val (.int x1), .unset, .unset, .unset, .unset] [(.ref b1)]))
  refine Go.step (fun _ k => XS.astoreN X20.here hx rfl (hb hby at_129) rfl rfl (l' := #[.val (.int x0), .val (.int x1), .val (.ref b1), .unset, .unset, .unset]) rfl k) ?_
  show Go _ _ _ _ (T20.setTop (mkF m 130 #[.val (.int x0), .val (.int x1), .val (.ref b1), .unset, .unset, .unset] []))
  refine Go.step (fun _ k => XS.iloadN X20.here hx rfl (hb hby at_130) rfl k) ?_
  show Go _ _ _ _ (T20.setTop (mkF m 131 #[.val (.int x0), .val (.int x1), .val (.ref b1), .unset, .unset, .unset] [(.int x0)]))
  refine Go.step (X20.ldcInt hx hown (mvT hZ (hw _ (List.mem_of_getElem? (i := 19) rfl))) (g := (mkF m 131 #[.val (.int x0), .val (.int x1), .val (.ref b1), .unset, .unset, .unset] [(.int x0)])) rfl (hb hby at_131)) ?_
  show Go _ _ _ _ (T20.setTop (mkF m 133 #[.val (.int x0), .val (.int x1), .val (.ref b1), .unset, .unset, .unset] [(.int (2147483647 : Int32)), (.int x0)]))
  refine Go.step (fun _ k => XS.iand X20.here hx rfl (hb hby at_133) rfl k) ?_
  show Go _ _ _ _ (T20.setTop (mkF m 134 #[.val (.int x0), .val (.int x1), .val (.ref b1), .unset, .unset, .unset] [(.int (x0 &&& (2147483647 : Int32)))]))
  refine Go.step (fun _ k => XS.bipush X20.here hx rfl (hb hby at_134) k) ?_
  show Go _ _ _ _ (T20.setTop (mkF m 136 #[.val (.int x0), .val (.int x1), .val (.ref b1), .unset, .unset, .unset] [(.int (20 : Int32)), (.int (x0 &&& (2147483647 : Int32)))]))
  refine Go.step (fun _ k => XS.irem X20.here hx rfl (hb hby at_136) rfl (by decide) k) ?_
  show Go _ _ _ _ (T20.setTop (mkF m 137 #[.val (.int x0), .val (.int x1), .val (.ref b1), .unset, .unset, .unset] [(.int ((x0 &&& (2147483647 : Int32)) - ((x0 &&& (2147483647 : Int32)) / (20 : Int32)) * (20 : Int32)))]))
  refine Go.step (fun _ k => XS.istoreN X20.here hx rfl (hb hby at_137) rfl (l' := #[.val (.int x0), .val (.int x1), .val (.ref b1), .val (.int ((x0 &&& (2147483647 : Int32)) - ((x0 &&& (2147483647 : Int32)) / (20 : Int32)) * (20 : Int32))), .unset, .unset]) rfl k) ?_
  show Go _ _ _ _ (T20.setTop (mkF m 138 #[.val (.int x0), .val (.int x1), .val (.ref b1), .val (.int ((x0 &&& (2147483647 : Int32)) - ((x0 &&& (2147483647 : Int32)) / (20 : Int32)) * (20 : Int32))), .unset, .unset] []))
  obtain ⟨n, hn', hne⟩ := own_mod x0 20 20 rfl (by decide) (by decide)
  have hn : n ≤ 19 := by omega
  rw [hne]
  show Go _ _ _ _ (T20.setTop (mkF m 138 #[.val (.int x0), .val (.int x1), .val (.ref b1), .val (.int (Int32.ofNat n)), .unset, .unset] []))
  refine Go.step (fun _ k => XS.iloadN X20.here hx rfl (hb hby at_138) rfl k) ?_
  show Go _ _ _ _ (T20.setTop (mkF m 139 #[.val (.int x0), .val (.int x1), .val (.ref b1), .val (.int (Int32.ofNat n)), .unset, .unset] [(.int (Int32.ofNat n))]))
  have VT : Arv Z h20 b1 k1 .long (19 : Int32) (own_ten.map Value.long) (.long 0) := V_b1_20
  refine goS X20 hx hZ hown (hw _ (List.mem_of_getElem? (i := 20) rfl)) (hw _ (List.mem_of_getElem? (i := 21) rfl)) (hw _ (List.mem_of_getElem? (i := 22) rfl)) (hw _ (List.mem_of_getElem? (i := 23) rfl)) (by decide) (rm1 l Z a0 hw [] h20 n hn h0.size (Nat.le_trans (Nat.le_trans (Nat.le_trans (Nat.le_trans (Nat.le_trans (Nat.le_trans (Nat.le_trans (Nat.le_trans (Nat.le_trans (Nat.le_trans (Nat.le_trans (Nat.le_trans (Nat.le_trans (Nat.le_trans (Nat.le_trans (Nat.le_trans (Nat.le_trans (Nat.le_trans (Nat.le_trans (Nat.le_trans (Nat.le_refl _) E1.1) (Keep.of_wr W2).1) (Keep.of_wr W3).1) (Keep.of_wr W4).1) (Keep.of_wr W5).1) (Keep.of_wr W6).1) (Keep.of_wr W7).1) (Keep.of_wr W8).1) (Keep.of_wr W9).1) (Keep.of_wr W10).1) (Keep.of_wr W11).1) (Keep.of_wr W12).1) (Keep.of_wr W13).1) (Keep.of_wr W14).1) (Keep.of_wr W15).1) (Keep.of_wr W16).1) (Keep.of_wr W17).1) (Keep.of_wr W18).1) (Keep.of_wr W19).1) (Keep.of_wr W20).1)) e20 (by rw [hml]; rfl) [.int (Int32.ofNat n)] [] rfl pd1 rfl rfl 0 rfl (hb hby at_139) (by decide) (by decide) (by decide) (by decide) fun TC LC vC qC XC => ?_
  obtain ⟨b, rfl, NC, KC, gC, PC⟩ := qC
  have NX := Fr.app NF20 NC
  have VT' := VT.keep KC nin0
  obtain ⟨cP, ArP, SzP, AtP⟩ := PC
  obtain ⟨cT, ArT, qT, SzT, NT, HT, GT⟩ := VT'
  show Go _ _ _ _ (TC.setTop (mkF m 142 #[.val (.int x0), .val (.int x1), .val (.ref b1), .val (.int (Int32.ofNat n)), .unset, .unset] [(.ref b)]))
  refine Go.step (fun _ k => XS.astore XC.here hx rfl (hb hby at_142) rfl rfl (l' := #[.val (.int x0), .val (.int x1), .val (.ref b1), .val (.int (Int32.ofNat n)), .val (.ref b), .unset]) rfl k) ?_
  show Go _ _ _ _ (TC.setTop (mkF m 144 #[.val (.int x0), .val (.int x1), .val (.ref b1), .val (.int (Int32.ofNat n)), .val (.ref b), .unset] []))
  refine Go.step (fun _ k => XS.aload XC.here hx rfl (hb hby at_144) rfl rfl k) ?_
  show Go _ _ _ _ (TC.setTop (mkF m 146 #[.val (.int x0), .val (.int x1), .val (.ref b1), .val (.int (Int32.ofNat n)), .val (.ref b), .unset] [(.ref b)]))
  refine Go.step (fun _ k => XS.ifnullNo XC.here hx rfl (hb hby at_146) rfl k) ?_
  show Go _ _ _ _ (TC.setTop (mkF m 149 #[.val (.int x0), .val (.int x1), .val (.ref b1), .val (.int (Int32.ofNat n)), .val (.ref b), .unset] []))
  refine Go.step (fun _ k => XS.aload XC.here hx rfl (hb hby at_149) rfl rfl k) ?_
  show Go _ _ _ _ (TC.setTop (mkF m 151 #[.val (.int x0), .val (.int x1), .val (.ref b1), .val (.int (Int32.ofNat n)), .val (.ref b), .unset] [(.ref b)]))
  refine Go.step (fun t k => XC.arraylength hx (by exact ArP.1) (State.isArrayOf_alike hZ.alike ArP.2.1) (g := (mkF m 151 #[.val (.int x0), .val (.int x1), .val (.ref b1), .val (.int (Int32.ofNat n)), .val (.ref b), .unset] [(.ref b)])) rfl rfl (hb hby at_151) t k) ?_
  rw [SzP]
  show Go _ _ _ _ (TC.setTop (mkF m 152 #[.val (.int x0), .val (.int x1), .val (.ref b1), .val (.int (Int32.ofNat n)), .val (.ref b), .unset] [(.int (Int32.ofNat n))]))
  refine Go.step (fun _ k => XS.iloadN XC.here hx rfl (hb hby at_152) rfl k) ?_
  show Go _ _ _ _ (TC.setTop (mkF m 153 #[.val (.int x0), .val (.int x1), .val (.ref b1), .val (.int (Int32.ofNat n)), .val (.ref b), .unset] [(.int (Int32.ofNat n)), (.int (Int32.ofNat n))]))
  refine Go.step (fun _ k => XS.icmpYes XC.here hx rfl (pc0 := 153) (pc' := 158) rfl (hb hby at_153) rfl (teq rfl).1 (by decide) (by decide) k) ?_
  show Go _ _ _ _ (TC.setTop (mkF m 158 #[.val (.int x0), .val (.int x1), .val (.ref b1), .val (.int (Int32.ofNat n)), .val (.ref b), .unset] []))
  refine Go.step (fun _ k => XS.iloadN XC.here hx rfl (hb hby at_158) rfl k) ?_
  show Go _ _ _ _ (TC.setTop (mkF m 159 #[.val (.int x0), .val (.int x1), .val (.ref b1), .val (.int (Int32.ofNat n)), .val (.ref b), .unset] [(.int (Int32.ofNat n))]))
  by_cases hc21 : (Int32.ofNat n) = (0 : Int32)
  · refine Go.step (fun _ k => XS.ifNo XC.here hx rfl (hb hby at_159) rfl ((if0 _ _).trans (teq hc21).2) k) ?_
    show Go _ _ _ _ (TC.setTop (mkF m 162 #[.val (.int x0), .val (.int x1), .val (.ref b1), .val (.int (Int32.ofNat n)), .val (.ref b), .unset] []))
    refine Go.step (fun _ k => XS.iconst XC.here hx rfl (hb hby at_162) k) ?_
    show Go _ _ _ _ (TC.setTop (mkF m 163 #[.val (.int x0), .val (.int x1), .val (.ref b1), .val (.int (Int32.ofNat n)), .val (.ref b), .unset] [(.int (1 : Int32))]))
    exact leafN XC hx (t := .boolean) hret (by simp) hlk (w := (1 : Int32)) rfl (hb hby at_163) ⟨rfl, NX⟩ (by decide) (by decide)
  · refine Go.step (fun _ k => XS.ifYes XC.here hx rfl (pc0 := 159) (pc' := 164) rfl (hb hby at_159) rfl ((if0 _ _).trans (feq hc21).2) (by decide) (by decide) k) ?_
    show Go _ _ _ _ (TC.setTop (mkF m 164 #[.val (.int x0), .val (.int x1), .val (.ref b1), .val (.int (Int32.ofNat n)), .val (.ref b), .unset] []))
    refine Go.step (fun _ k => XS.iloadN XC.here hx rfl (hb hby at_164) rfl k) ?_
    show Go _ _ _ _ (TC.setTop (mkF m 165 #[.val (.int x0), .val (.int x1), .val (.ref b1), .val (.int (Int32.ofNat n)), .val (.ref b), .unset] [(.int x1)]))
    refine Go.step (XC.ldcInt hx hown (mvT hZ (hw _ (List.mem_of_getElem? (i := 19) rfl))) (g := (mkF m 165 #[.val (.int x0), .val (.int x1), .val (.ref b1), .val (.int (Int32.ofNat n)), .val (.ref b), .unset] [(.int x1)])) rfl (hb hby at_165)) ?_
    show Go _ _ _ _ (TC.setTop (mkF m 167 #[.val (.int x0), .val (.int x1), .val (.ref b1), .val (.int (Int32.ofNat n)), .val (.ref b), .unset] [(.int (2147483647 : Int32)), (.int x1)]))
    refine Go.step (fun _ k => XS.iand XC.here hx rfl (hb hby at_167) rfl k) ?_
    show Go _ _ _ _ (TC.setTop (mkF m 168 #[.val (.int x0), .val (.int x1), .val (.ref b1), .val (.int (Int32.ofNat n)), .val (.ref b), .unset] [(.int (x1 &&& (2147483647 : Int32)))]))
    refine Go.step (fun _ k => XS.iloadN XC.here hx rfl (hb hby at_168) rfl k) ?_
    show Go _ _ _ _ (TC.setTop (mkF m 169 #[.val (.int x0), .val (.int x1), .val (.ref b1), .val (.int (Int32.ofNat n)), .val (.ref b), .unset] [(.int (Int32.ofNat n)), (.int (x1 &&& (2147483647 : Int32)))]))
    refine Go.step (fun _ k => XS.irem XC.here hx rfl (hb hby at_169) rfl hc21 k) ?_
    show Go _ _ _ _ (TC.setTop (mkF m 170 #[.val (.int x0), .val (.int x1), .val (.ref b1), .val (.int (Int32.ofNat n)), .val (.ref b), .unset] [(.int ((x1 &&& (2147483647 : Int32)) - ((x1 &&& (2147483647 : Int32)) / (Int32.ofNat n)) * (Int32.ofNat n)))]))
    refine Go.step (fun _ k => XS.istore XC.here hx rfl (hb hby at_170) rfl (l' := #[.val (.int x0), .val (.int x1), .val (.ref b1), .val (.int (Int32.ofNat n)), .val (.ref b), .val (.int ((x1 &&& (2147483647 : Int32)) - ((x1 &&& (2147483647 : Int32)) / (Int32.ofNat n)) * (Int32.ofNat n)))]) rfl k) ?_
    show Go _ _ _ _ (TC.setTop (mkF m 172 #[.val (.int x0), .val (.int x1), .val (.ref b1), .val (.int (Int32.ofNat n)), .val (.ref b), .val (.int ((x1 &&& (2147483647 : Int32)) - ((x1 &&& (2147483647 : Int32)) / (Int32.ofNat n)) * (Int32.ofNat n)))] []))
    have hn0 : 0 < n := Nat.pos_of_ne_zero (fun q => hc21 (by rw [q]; rfl))
    obtain ⟨j, hj, hje⟩ := own_mod x1 (Int32.ofNat n) n (own_toInt hn) hn0 (by omega)
    rw [hje]
    show Go _ _ _ _ (TC.setTop (mkF m 172 #[.val (.int x0), .val (.int x1), .val (.ref b1), .val (.int (Int32.ofNat n)), .val (.ref b), .val (.int (Int32.ofNat j))] []))
    refine Go.step (fun _ k => XS.aload XC.here hx rfl (hb hby at_172) rfl rfl k) ?_
    show Go _ _ _ _ (TC.setTop (mkF m 174 #[.val (.int x0), .val (.int x1), .val (.ref b1), .val (.int (Int32.ofNat n)), .val (.ref b), .val (.int (Int32.ofNat j))] [(.ref b)]))
    refine Go.step (fun _ k => XS.iload XC.here hx rfl (hb hby at_174) rfl k) ?_
    show Go _ _ _ _ (TC.setTop (mkF m 176 #[.val (.int x0), .val (.int x1), .val (.ref b1), .val (.int (Int32.ofNat n)), .val (.ref b), .val (.int (Int32.ofNat j))] [(.int (Int32.ofNat j)), (.ref b)]))
    refine Go.step (fun t k => XC.laload hx (j := (Int32.ofNat j)) (v := .long (own_p j)) (by exact ArP.1) (State.isArrayOf_alike hZ.alike ArP.2.1) ArP.2.2 (own_in (show j < n by omega) hn SzP) (by rw [own_n32 (by omega)]; exact AtP _ (by omega)) (g := (mkF m 176 #[.val (.int x0), .val (.int x1), .val (.ref b1), .val (.int (Int32.ofNat n)), .val (.ref b), .val (.int (Int32.ofNat j))] [(.int (Int32.ofNat j)), (.ref b)])) rfl rfl (hb hby at_176) t k) ?_
    show Go _ _ _ _ (TC.setTop (mkF m 177 #[.val (.int x0), .val (.int x1), .val (.ref b1), .val (.int (Int32.ofNat n)), .val (.ref b), .val (.int (Int32.ofNat j))] [(.long (own_p j))]))
    refine Go.step (fun _ k => XS.aloadN XC.here hx rfl (hb hby at_177) rfl rfl k) ?_
    show Go _ _ _ _ (TC.setTop (mkF m 178 #[.val (.int x0), .val (.int x1), .val (.ref b1), .val (.int (Int32.ofNat n)), .val (.ref b), .val (.int (Int32.ofNat j))] [(.ref b1), (.long (own_p j))]))
    refine Go.step (fun _ k => XS.iload XC.here hx rfl (hb hby at_178) rfl k) ?_
    show Go _ _ _ _ (TC.setTop (mkF m 180 #[.val (.int x0), .val (.int x1), .val (.ref b1), .val (.int (Int32.ofNat n)), .val (.ref b), .val (.int (Int32.ofNat j))] [(.int (Int32.ofNat j)), (.ref b1), (.long (own_p j))]))
    refine Go.step (fun t k => XC.laload hx (j := (Int32.ofNat j)) (v := .long (own_ten.getD j 0)) (by exact ArT.1) (State.isArrayOf_alike hZ.alike ArT.2.1) ArT.2.2 (own_in (show j < 19 by omega) (by omega) SzT) (HT.at (own_in (show j < 19 by omega) (by omega) SzT) (by rw [own_n32 (by omega)]; exact own_getL own_ten _)) (g := (mkF m 180 #[.val (.int x0), .val (.int x1), .val (.ref b1), .val (.int (Int32.ofNat n)), .val (.ref b), .val (.int (Int32.ofNat j))] [(.int (Int32.ofNat j)), (.ref b1), (.long (own_p j))])) rfl rfl (hb hby at_180) t k) ?_
    show Go _ _ _ _ (TC.setTop (mkF m 181 #[.val (.int x0), .val (.int x1), .val (.ref b1), .val (.int (Int32.ofNat n)), .val (.ref b), .val (.int (Int32.ofNat j))] [(.long (own_ten.getD j 0)), (.long (own_p j))]))
    refine Go.step (fun _ k => XS.lcmp XC.here hx rfl (hb hby at_181) rfl k) ?_
    show Go _ _ _ _ (TC.setTop (mkF m 182 #[.val (.int x0), .val (.int x1), .val (.ref b1), .val (.int (Int32.ofNat n)), .val (.ref b), .val (.int (Int32.ofNat j))] [(.int (lcmpW (own_p j) (own_ten.getD j 0)))]))
    refine Go.step (fun _ k => XS.ifNo XC.here hx rfl (hb hby at_182) rfl ((if0 _ _).trans (teq ((lw_eq _ _).mpr (own_pt (by omega)))).2) k) ?_
    show Go _ _ _ _ (TC.setTop (mkF m 185 #[.val (.int x0), .val (.int x1), .val (.ref b1), .val (.int (Int32.ofNat n)), .val (.ref b), .val (.int (Int32.ofNat j))] []))
    refine Go.step (fun _ k => XS.aload XC.here hx rfl (hb hby at_185) rfl rfl k) ?_
    show Go _ _ _ _ (TC.setTop (mkF m 187 #[.val (.int x0), .val (.int x1), .val (.ref b1), .val (.int (Int32.ofNat n)), .val (.ref b), .val (.int (Int32.ofNat j))] [(.ref b)]))
    refine Go.step (fun _ k => XS.iloadN XC.here hx rfl (hb hby at_187) rfl k) ?_
    show Go _ _ _ _ (TC.setTop (mkF m 188 #[.val (.int x0), .val (.int x1), .val (.ref b1), .val (.int (Int32.ofNat n)), .val (.ref b), .val (.int (Int32.ofNat j))] [(.int (Int32.ofNat n)), (.ref b)]))
    refine Go.step (fun _ k => XS.iconst XC.here hx rfl (hb hby at_188) k) ?_
    show Go _ _ _ _ (TC.setTop (mkF m 189 #[.val (.int x0), .val (.int x1), .val (.ref b1), .val (.int (Int32.ofNat n)), .val (.ref b), .val (.int (Int32.ofNat j))] [(.int (1 : Int32)), (.int (Int32.ofNat n)), (.ref b)]))
    refine Go.step (fun _ k => XS.isub XC.here hx rfl (hb hby at_189) rfl k) ?_
    show Go _ _ _ _ (TC.setTop (mkF m 190 #[.val (.int x0), .val (.int x1), .val (.ref b1), .val (.int (Int32.ofNat n)), .val (.ref b), .val (.int (Int32.ofNat j))] [(.int ((Int32.ofNat n) - (1 : Int32))), (.ref b)]))
    rw [own_pred hn0]
    show Go _ _ _ _ (TC.setTop (mkF m 190 #[.val (.int x0), .val (.int x1), .val (.ref b1), .val (.int (Int32.ofNat n)), .val (.ref b), .val (.int (Int32.ofNat j))] [(.int (Int32.ofNat (n - 1))), (.ref b)]))
    refine Go.step (fun t k => XC.laload hx (j := (Int32.ofNat (n - 1))) (v := .long (own_p (n - 1))) (by exact ArP.1) (State.isArrayOf_alike hZ.alike ArP.2.1) ArP.2.2 (own_in (show (n - 1) < n by omega) hn SzP) (by rw [own_n32 (by omega)]; exact AtP _ (by omega)) (g := (mkF m 190 #[.val (.int x0), .val (.int x1), .val (.ref b1), .val (.int (Int32.ofNat n)), .val (.ref b), .val (.int (Int32.ofNat j))] [(.int (Int32.ofNat (n - 1))), (.ref b)])) rfl rfl (hb hby at_190) t k) ?_
    show Go _ _ _ _ (TC.setTop (mkF m 191 #[.val (.int x0), .val (.int x1), .val (.ref b1), .val (.int (Int32.ofNat n)), .val (.ref b), .val (.int (Int32.ofNat j))] [(.long (own_p (n - 1)))]))
    refine Go.step (fun _ k => XS.aloadN XC.here hx rfl (hb hby at_191) rfl rfl k) ?_
    show Go _ _ _ _ (TC.setTop (mkF m 192 #[.val (.int x0), .val (.int x1), .val (.ref b1), .val (.int (Int32.ofNat n)), .val (.ref b), .val (.int (Int32.ofNat j))] [(.ref b1), (.long (own_p (n - 1)))]))
    refine Go.step (fun _ k => XS.iloadN XC.here hx rfl (hb hby at_192) rfl k) ?_
    show Go _ _ _ _ (TC.setTop (mkF m 193 #[.val (.int x0), .val (.int x1), .val (.ref b1), .val (.int (Int32.ofNat n)), .val (.ref b), .val (.int (Int32.ofNat j))] [(.int (Int32.ofNat n)), (.ref b1), (.long (own_p (n - 1)))]))
    refine Go.step (fun _ k => XS.iconst XC.here hx rfl (hb hby at_193) k) ?_
    show Go _ _ _ _ (TC.setTop (mkF m 194 #[.val (.int x0), .val (.int x1), .val (.ref b1), .val (.int (Int32.ofNat n)), .val (.ref b), .val (.int (Int32.ofNat j))] [(.int (1 : Int32)), (.int (Int32.ofNat n)), (.ref b1), (.long (own_p (n - 1)))]))
    refine Go.step (fun _ k => XS.isub XC.here hx rfl (hb hby at_194) rfl k) ?_
    show Go _ _ _ _ (TC.setTop (mkF m 195 #[.val (.int x0), .val (.int x1), .val (.ref b1), .val (.int (Int32.ofNat n)), .val (.ref b), .val (.int (Int32.ofNat j))] [(.int ((Int32.ofNat n) - (1 : Int32))), (.ref b1), (.long (own_p (n - 1)))]))
    rw [own_pred hn0]
    show Go _ _ _ _ (TC.setTop (mkF m 195 #[.val (.int x0), .val (.int x1), .val (.ref b1), .val (.int (Int32.ofNat n)), .val (.ref b), .val (.int (Int32.ofNat j))] [(.int (Int32.ofNat (n - 1))), (.ref b1), (.long (own_p (n - 1)))]))
    refine Go.step (fun t k => XC.laload hx (j := (Int32.ofNat (n - 1))) (v := .long (own_ten.getD (n - 1) 0)) (by exact ArT.1) (State.isArrayOf_alike hZ.alike ArT.2.1) ArT.2.2 (own_in (show (n - 1) < 19 by omega) (by omega) SzT) (HT.at (own_in (show (n - 1) < 19 by omega) (by omega) SzT) (by rw [own_n32 (by omega)]; exact own_getL own_ten _)) (g := (mkF m 195 #[.val (.int x0), .val (.int x1), .val (.ref b1), .val (.int (Int32.ofNat n)), .val (.ref b), .val (.int (Int32.ofNat j))] [(.int (Int32.ofNat (n - 1))), (.ref b1), (.long (own_p (n - 1)))])) rfl rfl (hb hby at_195) t k) ?_
    show Go _ _ _ _ (TC.setTop (mkF m 196 #[.val (.int x0), .val (.int x1), .val (.ref b1), .val (.int (Int32.ofNat n)), .val (.ref b), .val (.int (Int32.ofNat j))] [(.long (own_ten.getD (n - 1) 0)), (.long (own_p (n - 1)))]))
    refine Go.step (fun _ k => XS.lcmp XC.here hx rfl (hb hby at_196) rfl k) ?_
    show Go _ _ _ _ (TC.setTop (mkF m 197 #[.val (.int x0), .val (.int x1), .val (.ref b1), .val (.int (Int32.ofNat n)), .val (.ref b), .val (.int (Int32.ofNat j))] [(.int (lcmpW (own_p (n - 1)) (own_ten.getD (n - 1) 0)))]))
    refine Go.step (fun _ k => XS.ifNo XC.here hx rfl (hb hby at_197) rfl ((if0 _ _).trans (teq ((lw_eq _ _).mpr (own_pt (by omega)))).2) k) ?_
    show Go _ _ _ _ (TC.setTop (mkF m 200 #[.val (.int x0), .val (.int x1), .val (.ref b1), .val (.int (Int32.ofNat n)), .val (.ref b), .val (.int (Int32.ofNat j))] []))
    refine Go.step (fun _ k => XS.iconst XC.here hx rfl (hb hby at_200) k) ?_
    show Go _ _ _ _ (TC.setTop (mkF m 201 #[.val (.int x0), .val (.int x1), .val (.ref b1), .val (.int (Int32.ofNat n)), .val (.ref b), .val (.int (Int32.ofNat j))] [(.int (1 : Int32))]))
    refine Go.step (fun _ k => XS.goto XC.here hx rfl (pc0 := 201) (pc' := 205) rfl (hb hby at_201) (by decide) (by decide) k) ?_
    show Go _ _ _ _ (TC.setTop (mkF m 205 #[.val (.int x0), .val (.int x1), .val (.ref b1), .val (.int (Int32.ofNat n)), .val (.ref b), .val (.int (Int32.ofNat j))] [(.int (1 : Int32))]))
    exact leafN XC hx (t := .boolean) hret (by simp) hlk (w := (1 : Int32)) rfl (hb hby at_205) ⟨rfl, NX⟩ (by decide) (by decide)
set_option maxRecDepth 65536 in
set_option maxHeartbeats 40000000 in
theorem comes_1 {Post : Tables → Env → Array Value → State → Outcome → State → Prop} (hpost : ∀ tb e args s v u, (limb_1_1.after args s (.returned v) u = true ∧ limb_1_2.after args s (.returned v) u = true ∧ True) → FrameEnd s (.returned v) u (Jvm.fieldLocs frame_1_writes args s ++ Jvm.arrayLocs frame_1_arrays args s ++ Jvm.staticLocs frame_1_statics s) 16 192 → Post tb e args s (.returned v) u) :
    ArmFor flags0 classFile x code maxLocals ret World_1 tables_1 room_1 Calls_1 rest_1 Pre_1 Post := by
  intro l hfl _ _ p e ha hc hk s m args below hf hA hF happ hP
  obtain ⟨hcalls, hrest, hpre⟩ := hP
  obtain ⟨-, -, -, hnamed, -, -, -, hat⟩ := (Spec.applies_iff hf).mp happ
  obtain ⟨hg, hn⟩ := and_e (Cond.before_iff.mp (show (Jvm.Cond.and given_1 narrow_1).before args s = true from hpre))
  obtain ⟨hcount, hg0⟩ := and_e hg
  obtain ⟨ha0, hg1⟩ := and_e hg0
  have ha1 := hg1
  obtain ⟨w0, w1, rfl⟩ : ∃ w0 w1 : Value, args = #[w0, w1] := by
    have hs : args.size = 2 := by simpa [Cond.value, given_1] using hcount
    obtain ⟨L⟩ := args
    match L, hs with
    | [w0, w1], _ => exact ⟨w0, w1, rfl⟩
  have hw := fun d (hd : d ∈ tables_1) => atoms_spec (ws := Jvm.Cond.code x code maxLocals ret :: tables_1) hat d (List.mem_cons_of_mem _ hd)
  obtain ⟨i0, ei0⟩ := is_v ha0
  obtain rfl : w0 = (.int i0) := Option.some.inj ei0
  obtain ⟨i1, ei1⟩ := is_v ha1
  obtain rfl : w1 = (.int i1) := Option.some.inj ei1
  obtain ⟨n, o, h1, h2, h3, _, L, rfl, ⟨rfl, N⟩, hq⟩ := rm0 l s _ hw tables_1 i0 i1 s.heap p e ha hc hk s m _ below hf ((Spec.applies_iff_loose hf).mp happ).1 ⟨rfl, State.Warmed39.refl s, rfl⟩ trivial
  refine ⟨n, _, h1, h2, h3, hpost _ _ _ _ _ _ ⟨Cond.after_iff.mpr rfl, Cond.after_iff.mpr (eq_i res_at (Term.int_eval (1)) rfl), trivial⟩ ⟨hq.1, hq.2.1, (hq.2.2.sift fun y hy => Or.inr (N y hy)).mono (by decide) (by decide)⟩⟩
theorem main_1_1 : Claimed_1_1 := comes_1 fun _ _ _ _ _ _ h hF => ⟨h.1, hF⟩
theorem main_1_2 : Claimed_1_2 := comes_1 fun _ _ _ _ _ _ h hF => ⟨h.2.1, hF⟩
end Jvm.Pilot.@@N@@
namespace Jvm.Pilot.@@N@@
open Jvm Jvm.ClassFile Sem Op Lib Jvm.Free Jvm.Stand Jvm.Pilot.@@N@@.Jvm.D
/-! MADE BY PROGRAM (witnessworld.py) out of the Statement's table words and the real class files: 11 classes; the members and pool entries that the words name. The judged class is class 1, her method 1. -/
namespace start1
open Jvm.ClassFile
def u (s : String) : CpInfo := .utf8 (stringToUtf16 s)
/-- a pool by its gaps: so many unusable entries, then the entry; so many at the end -/
def gap : Nat → List CpInfo → List CpInfo
  | 0, r => r
  | n + 1, r => .unusable :: gap n r
def poolList (es : List (Nat × CpInfo)) (last : Nat) : List CpInfo := es.foldr (fun e r => gap e.1 (e.2 :: r)) (gap last [])
def pool (es : List (Nat × CpInfo)) (last : Nat) : Array CpInfo := ⟨poolList es last⟩
def fileOf (pool : Array CpInfo) (this : Nat) (attrs : Array Attribute := #[]) (ms : Array MethodInfo := #[]) (fl : Nat := 33) (sup : Nat := 0) (ifs : Array Nat := #[]) (fds : Array FieldInfo := #[]) : ClassFile where
  minorVersion := 0
  majorVersion := 65
  constantPool := pool
  accessFlags := fl
  thisClass := this
  superClass := sup
  interfaces := ifs
  fields := fds
  methods := ms
  attributes := attrs
def plain (name : String) (sup : Option ClassId) : Class where
  name := name
  kind := .ordinary
  loader := none
  accessFlags := 33
  super := sup
  interfaces := #[]
  cf := none
  fields := #[]
  methods := #[]
  instanceTypes := #[]
  staticTypes := #[]
  resolved := #[]
  callSites := []
  init := .initialized
  statics := none
  mirror := none

def pool0 : Array CpInfo := pool [(5, u "<init>"), (0, u "()V"), (1, .class_ 10), (1, u "java/lang/Object")] 113

def k0m0 : Method := { name := "<init>", desc := "()V", sig := { parameters := [], returnType := none }, accessFlags := 1, code := none }
/-- java/lang/Object -/
def k0 : Class := { plain "java/lang/Object" none with
  accessFlags := 33
  interfaces := #[]
  cf := some (fileOf pool0 8 #[] #[{ accessFlags := 1, nameIndex := 5, descriptorIndex := 6, attributes := #[] }] 33 0 #[] #[])
  fields := #[]
  methods := #[k0m0]
  instanceTypes := #[]
  staticTypes := #[]
  resolved := Array.replicate 124 none
  statics := none }

def pool1 : Array CpInfo := pool [(2, .class_ 4), (1, u "java/lang/Object"), (0, u "<init>"), (0, u "()V"), (0, .long 10), (1, .long 100), (1, .long 1000), (1, .long 10000), (1, .long 100000), (1, .long 1000000), (1, .long 10000000), (1, .long 100000000), (1, .long 1000000000), (1, .long 10000000000), (1, .long 100000000000), (1, .long 1000000000000), (1, .long 10000000000000), (1, .long 100000000000000), (1, .long 1000000000000000), (1, .long 10000000000000000), (1, .long 100000000000000000), (1, .long 1000000000000000000), (1, .integer 2147483647), (0, .methodref 45 46), (0, .class_ 47), (0, .nameAndType 48 49), (0, u "com/example/pledgebook/pledgebook/Money"), (0, u "powersOfTen"), (0, u "(I)[J"), (0, .class_ 51), (0, u "com/example/pledgebook/pledgebook/MoneyPowersOfTenPinLaw"), (2, u "law"), (0, u "(II)Z")] 5

def k1m0 : Method := { name := "<init>", desc := "()V", sig := { parameters := [], returnType := none }, accessFlags := 2, code := none }
def k1c1 : Code := { maxStack := 5, maxLocals := 6, code := code, exceptionTable := #[], attributes := #[] }
def k1m1 : Method := { name := "law", desc := "(II)Z", sig := { parameters := [.int, .int], returnType := some .boolean }, accessFlags := 9, code := some k1c1 }
/-- com/example/pledgebook/pledgebook/MoneyPowersOfTenPinLaw -/
def k1 : Class := { plain "com/example/pledgebook/pledgebook/MoneyPowersOfTenPinLaw" (some 0) with
  accessFlags := 49
  interfaces := #[]
  cf := some (fileOf pool1 50 #[] #[{ accessFlags := 2, nameIndex := 5, descriptorIndex := 6, attributes := #[] }, { accessFlags := 9, nameIndex := 54, descriptorIndex := 55, attributes := #[] }] 49 2 #[] #[])
  fields := #[]
  methods := #[k1m0, k1m1]
  instanceTypes := #[]
  staticTypes := #[]
  resolved := Array.replicate 61 none
  statics := none }

def pool2 : Array CpInfo := pool [(2, .class_ 4), (1, u "java/lang/Object"), (0, u "<init>"), (0, u "()V"), (24, .class_ 33), (1, u "com/example/pledgebook/pledgebook/Money"), (13, .long 10), (15, u "powersOfTen"), (0, u "(I)[J")] 5

def k2m0 : Method := { name := "<init>", desc := "()V", sig := { parameters := [], returnType := none }, accessFlags := 2, code := none }
def k2c1 : Code := { maxStack := 4, maxLocals := 5, code := prog_22_method_8_code, exceptionTable := #[], attributes := #[] }
def k2m1 : Method := { name := "powersOfTen", desc := "(I)[J", sig := { parameters := [.int], returnType := some (.array .long) }, accessFlags := 8, code := some k2c1 }
/-- com/example/pledgebook/pledgebook/Money -/
def k2 : Class := { plain "com/example/pledgebook/pledgebook/Money" (some 0) with
  accessFlags := 33
  interfaces := #[]
  cf := some (fileOf pool2 31 #[] #[{ accessFlags := 2, nameIndex := 5, descriptorIndex := 6, attributes := #[] }, { accessFlags := 8, nameIndex := 63, descriptorIndex := 64, attributes := #[] }] 33 2 #[] #[])
  fields := #[]
  methods := #[k2m0, k2m1]
  instanceTypes := #[]
  staticTypes := #[]
  resolved := Array.replicate 70 none
  statics := none }

def pool3 : Array CpInfo := pool [(1, u "java/lang/Cloneable"), (0, .class_ 1), (0, u "java/lang/Object"), (0, .class_ 3)] 3

/-- java/lang/Cloneable -/
def k3 : Class := { plain "java/lang/Cloneable" (some 0) with
  accessFlags := 1537
  interfaces := #[]
  cf := some (fileOf pool3 2 #[] #[] 1537 4 #[] #[])
  fields := #[]
  methods := #[]
  instanceTypes := #[]
  staticTypes := #[]
  resolved := Array.replicate 8 none
  statics := none }

def pool4 : Array CpInfo := pool [(1, u "java/io/Serializable"), (0, .class_ 1), (0, u "java/lang/Object"), (0, .class_ 3)] 3

/-- java/io/Serializable -/
def k4 : Class := { plain "java/io/Serializable" (some 0) with
  accessFlags := 1537
  interfaces := #[]
  cf := some (fileOf pool4 2 #[] #[] 1537 4 #[] #[])
  fields := #[]
  methods := #[]
  instanceTypes := #[]
  staticTypes := #[]
  resolved := Array.replicate 8 none
  statics := none }

/-- the primitive byte -/
def k5 : Class := { plain "byte" none with kind := .primitive 'B', accessFlags := 0x411 }
/-- [B -/
def k6 : Class := { plain "[B" (some 0) with kind := .array 5 .byte, interfaces := #[3, 4], accessFlags := 1041 }

/-- the primitive int -/
def k7 : Class := { plain "int" none with kind := .primitive 'I', accessFlags := 0x411 }
/-- [I -/
def k8 : Class := { plain "[I" (some 0) with kind := .array 7 .int, interfaces := #[3, 4], accessFlags := 1041 }

/-- the primitive long -/
def k9 : Class := { plain "long" none with kind := .primitive 'J', accessFlags := 0x411 }
/-- [J -/
def k10 : Class := { plain "[J" (some 0) with kind := .array 9 .long, interfaces := #[3, 4], accessFlags := 1041 }

def heap : Heap := #[]
def classes : Array Class := #[k0, k1, k2, k3, k4, k5, k6, k7, k8, k9, k10]
def interned : List (Array UInt16 × Addr) := []
def slotsUsed : Nat := 0
def theMethod : MethodId := ⟨1, 1⟩
def args0 : Array Value := #[.int 5, .int 6]
def aboutOver (below : List Frame) : State where
  vm := { classes := classes, interned := interned.toArray }
  heap := heap
  slotsUsed := slotsUsed
  threads := #[{ frames := .invoking theMethod args0 :: below }]
def below0 : List Frame := [.native { method := ⟨0, 0⟩, args := #[] }]
def about1 : State := aboutOver below0
def p0 : Program := .bare "" "" ""
def e0 : Env := launch0.env 0 0 0
theorem w_frames : about1.frames = Frame.invoking theMethod args0 :: below0 := rfl
set_option maxRecDepth 65536 in
theorem w_args : argsFit about1.vm theMethod args0 = true := by decide +kernel
set_option maxRecDepth 65536 in
theorem w_heap : heapFits about1 = true := by decide +kernel
set_option maxRecDepth 65536 in
theorem w_runnable : about1.curStatus? = some .runnable := by decide +kernel
set_option maxRecDepth 65536 in
theorem w_alone : about1.alone = true := by decide +kernel
set_option maxRecDepth 65536 in
theorem w_named : about1.methodNamed? x = some theMethod := by decide +kernel
set_option maxRecDepth 65536 in
theorem w_hears : about1.hears theMethod below0 = true := by decide +kernel
set_option maxRecDepth 65536 in
theorem w_ripe : about1.ripe theMethod args0 below0 = true := by decide +kernel
theorem w_running : about1.status = .running := rfl
set_option maxRecDepth 65536 in
theorem w_room : about1.hasRoom e0.platform room_1 = true :=
  launch0.hasRoom_least _ room_1 (by decide +kernel) (by decide +kernel) (by decide +kernel) (by decide +kernel) (by decide +kernel) (by decide +kernel)
theorem allAtoms_all (ts : List Jvm.Cond) (a : Array Jvm.Value) (st : Jvm.State) : (allAtoms ts).before a st = ts.all (fun c => c.before a st) := by
  induction ts with
  | nil => rfl
  | cons c t ih =>
    show (Jvm.Cond.and c (allAtoms t)).before a st = _
    rw [Jvm.Cond.before_and, ih, List.all_cons]
def words1 : List Jvm.Cond := Jvm.Cond.code x code maxLocals ret :: tables_1
/-- a 'code' word, met by the world's own term for the bytes: nothing is compared byte by byte -/
theorem code_word {y : MethodName} {bytes : ByteArray} {mx : Nat} {rt : Option FieldType} {a : Array Value} {s : State} {m : MethodId} {meth : Method} {c : Code} (h1 : s.methodNamed? y = some m) (h2 : s.vm.method? m = some meth) (h3 : meth.code = some c) (h4 : c.code = bytes)
    (h5 : (c.maxLocals == mx && c.exceptionTable.isEmpty && decide (c.maxStack ≤ mostOperands) && decide (meth.sig.returnType = rt) && !meth.locks && decide (parseMethodDescriptor y.desc = some meth.sig)) = true) : (Jvm.Cond.code y bytes mx rt).before a s = true := by
  simp only [Bool.and_eq_true, beq_iff_eq, Bool.not_eq_true', decide_eq_true_eq] at h5
  obtain ⟨⟨⟨⟨⟨g1, g2⟩, g3⟩, g4⟩, g5⟩, g6⟩ := h5
  simp [Cond.before, Cond.holds, Cond.value, h1, h2, h3, h4, g1, g2, g3, g4, g5, g6]
def isCode : Jvm.Cond → Bool
  | .code _ _ _ _ => true
  | _ => false
theorem all_split {L : List Jvm.Cond} {P : Jvm.Cond → Bool} (h1 : L.all (fun c => isCode c || P c) = true) (h2 : ∀ c ∈ L.filter isCode, P c = true) : L.all P = true := by
  refine List.all_eq_true.mpr fun c hc => ?_
  have h := List.all_eq_true.mp h1 c hc
  rcases Bool.eq_false_or_eq_true (isCode c) with hi | hi
  · exact h2 c (List.mem_filter.mpr ⟨hc, hi⟩)
  · simpa [hi] using h
set_option maxRecDepth 65536 in
theorem w_c0 : (Jvm.Cond.code x code maxLocals ret).before args0 about1 = true := code_word (m := ⟨1, 1⟩) (meth := k1m1) (c := k1c1) (by decide +kernel) rfl rfl rfl (by decide +kernel)
set_option maxRecDepth 65536 in
theorem w_c1 : (Jvm.Cond.code ({ cls := "com/example/pledgebook/pledgebook/Money", name := "powersOfTen", desc := "(I)[J" } : Jvm.MethodName) prog_22_method_8_code (5 : Nat) (Option.some (Jvm.ClassFile.FieldType.array Jvm.ClassFile.FieldType.long))).before args0 about1 = true := code_word (m := ⟨2, 1⟩) (meth := k2m1) (c := k2c1) (by decide +kernel) rfl rfl rfl (by decide +kernel)
def codes1 : List Jvm.Cond := [Jvm.Cond.code x code maxLocals ret, Jvm.Cond.code ({ cls := "com/example/pledgebook/pledgebook/Money", name := "powersOfTen", desc := "(I)[J" } : Jvm.MethodName) prog_22_method_8_code (5 : Nat) (Option.some (Jvm.ClassFile.FieldType.array Jvm.ClassFile.FieldType.long))]
set_option maxRecDepth 65536 in
theorem codes_eq : words1.filter isCode = codes1 := rfl
theorem w_codes : ∀ c ∈ words1.filter isCode, c.before args0 about1 = true := by
  rw [codes_eq]
  intro c hc
  simp only [codes1, List.mem_cons, List.not_mem_nil, or_false] at hc
  rcases hc with rfl | rfl
  · exact w_c0
  · exact w_c1
set_option maxRecDepth 65536 in
theorem w_t1 : (words1.take 24).all (fun c => isCode c || c.before args0 about1) = true := by decide +kernel
set_option maxRecDepth 65536 in
theorem w_t2 : (words1.drop 24).all (fun c => isCode c || c.before args0 about1) = true := by decide +kernel
theorem w_tables : (allAtoms (Jvm.Cond.code x code maxLocals ret :: tables_1)).before args0 about1 = true := by
  rw [allAtoms_all]
  show words1.all (fun c => c.before args0 about1) = true
  refine all_split ?_ w_codes
  rw [← List.take_append_drop 24 words1, List.all_append, w_t1, w_t2]
  rfl
set_option maxRecDepth 65536 in
theorem w_case : (Jvm.Cond.and given_1 narrow_1).before args0 about1 = true := by decide +kernel
theorem w_applies : (headSpec (Jvm.Cond.code x code maxLocals ret :: tables_1) room_1).applies x e0.platform about1 = true :=
  (Spec.applies_iff w_frames).mpr ⟨w_running, w_runnable, w_alone, w_named, w_hears, w_ripe, w_room, w_tables⟩
theorem atStart : AtStart classFile x code maxLocals ret World_1 tables_1 room_1 Calls_1 rest_1 Pre_1 launch0 p0 e0 about1 theMethod args0 below0 :=
  ⟨lists_1, trivial, launch0.admits_env _ _ _, launch0.least_env, fairChoices_fair.cas, fairChoices_fair.clock, w_frames, w_args, w_heap, w_applies, trivial, trivial, w_case⟩
end start1
theorem witness_1 : WitnessClaimed_1 := ⟨start1.p0, start1.e0, start1.about1, start1.theMethod, start1.args0, start1.below0, start1.atStart⟩
end Jvm.Pilot.@@N@@
