import JvmDerived
import JvmDerived.Pilot.@@N@@Statement
import JvmDerived.Pilot.@@N@@Code
set_option linter.unusedVariables false
set_option linter.unusedSimpArgs false
namespace Jvm.Pilot.@@N@@
open Jvm Jvm.ClassFile Sem Op Lib Jvm.Free Jvm.Stand Jvm.LawKit Jvm.RoadKit Bundle Jvm.Pilot.@@N@@.Jvm.D
/-! own_kit: a walk as 'what is left to do' (Go), contracts (Con), calls and returns in that form -/
/-- from F the run comes to an end of which P holds -/
def Go (tb : Tables) (e : Env) (below : List Frame) (P : Outcome → State → Prop) (F : State) : Prop :=
  ∃ s₂ o, Steps tb e below F s₂ ∧ s₂.status = .running ∧ Ended s₂ below o ∧ P o s₂
theorem Go.step {tb : Tables} {e : Env} {below : List Frame} {P : Outcome → State → Prop} {A B : State} (h : ∀ t, Steps tb e below B t → Steps tb e below A t) (k : Go tb e below P B) : Go tb e below P A := by
  obtain ⟨s₂, o, h1, h2, h3, h4⟩ := k
  exact ⟨s₂, o, h _ h1, h2, h3, h4⟩
theorem Go.via {tb : Tables} {e : Env} {below : List Frame} {P : Outcome → State → Prop} {A B : State} (h : Steps tb e below A B) (k : Go tb e below P B) : Go tb e below P A :=
  Go.step (fun t q => h.trans q) k
/-- how a walk ends: it returns v, Q holds of v, the heap and the places written; at most C cells and S slots were made -/
def EndsAs (s : State) (C S : Nat) (Q : Option Value → Heap → List Loc → Prop) (o : Outcome) (U : State) : Prop :=
  ∃ v L, o = .returned v ∧ Q v U.heap L ∧ FrameEnd s o U L C S
/-- the contract of a body at arguments 'as' and heap h0 -/
abbrev Con (l : Launch) (Z : State) (y : MethodName) (bytes : ByteArray) (mx : Nat) (ret : Option FieldType) (ws : List Jvm.Cond) (rm : Room) (as : Array Value) (h0 : Heap) (Q : Option Value → Heap → List Loc → Prop) : Prop :=
  MetFree l y (head1 (Jvm.Cond.code y bytes mx ret :: ws) rm) (fun a U => a = as ∧ Z.Warmed39 U.vm ∧ U.heap = h0) (fun _ _ _ _ _ => True) (fun _ U o U' => ∃ v L, o = .returned v ∧ Q v U'.heap L ∧ FrameEnd U o U' L rm.cells rm.slots)
theorem Con.of {l : Launch} {Z : State} {y : MethodName} {bytes : ByteArray} {mx : Nat} {ret : Option FieldType} {ws : List Jvm.Cond} {rm : Room} {as : Array Value} {h0 : Heap} {Q : Option Value → Heap → List Loc → Prop} (hpl : plainFor y = true)
    (body : ∀ (p : Program) (e : Env) (s : State) (m : MethodId) (below : List Frame) (meth : Method) (c : Code) (s₁ : State), Z.Warmed39 s.vm → p.tables.exec = Jvm.exec → c.code = bytes → c.maxLocals = mx → s.vm.findClass y.cls = some m.cls → meth.sig.returnType = ret → meth.locks = false → meth.name = y.name →
      Stand p l e rm s m as below meth c s₁ [] 0 0 → s₁.heap = h0 → Go p.tables e below (EndsAs s rm.cells rm.slots Q) (s₁.setTop (entryFrame m as mx))) :
    Con l Z y bytes mx ret ws rm as h0 Q := by
  refine MetFree.of_bodySF hpl hisR ?_
  intro p e s m args below meth c s₁ Bd hml0 hP hK
  obtain ⟨rfl, hZ, hh⟩ := hP
  exact body p e s m below meth c s₁ hZ Bd.exec Bd.bytes hml0 (findClass_of_methodNamed Bd.named) Bd.returns Bd.notSynchronized (name_of_methodNamed Bd.named Bd.method).1 (Stand.of_body Bd) (by rw [← hh, Bd.state]; rfl)
section Kit
variable {p : Program} {l : Launch} {e : Env} {R : Room} {s : State} {m : MethodId} {args : Array Value} {below : List Frame} {meth : Method} {c : Code} {T : State} {locs : List Loc} {cells slots : Nat} {Z : State} {a0 : Array Value} {h : Heap}
theorem leafO (X : Stand p l e R s m args below meth c T locs cells slots) (hx : p.tables.exec = Jvm.exec) {t : FieldType} (hret : meth.sig.returnType = some t) (hlk : meth.locks = false) {pc : Nat} {Ls : Array Slot} {w : Value} {i : Instr} {rest : List Value} (hn : narrow t w = w)
    (hi : (i = .ireturn ∧ (t = .int ∨ t = .boolean ∨ t = .byte ∨ t = .char ∨ t = .short) ∧ ∃ z, w = .int z) ∨ (i = .lreturn ∧ t = .long ∧ ∃ z, w = .long z) ∨ (i = .dreturn ∧ t = .double ∧ ∃ z, w = .double z) ∨ (i = .freturn ∧ t = .float ∧ ∃ z, w = .float z) ∨ (i = .areturn ∧ t.isReference = true ∧ w.isRef = true))
    (hd : decode c.code pc = .ok (i, 1)) {Q : Option Value → Heap → List Loc → Prop} {C S : Nat} (hQ : Q (some w) T.heap locs) (hC : cells ≤ C) (hS : slots ≤ S) :
    Go p.tables e below (EndsAs s C S Q) (T.setTop (mkF m pc Ls (w :: rest))) := by
  obtain ⟨fs, hr, hrun, hended, hW, hsame⟩ := X.leave (v := some w) (fun h => by rw [hret] at h; cases h) hlk
  exact ⟨_, _, retOut X hx hret hn hi hd hr, hrun, hended, _, _, rfl, hQ, ⟨_, rfl⟩, hW, hsame.mono hC hS⟩
theorem leafI (X : Stand p l e R s m args below meth c T locs cells slots) (hx : p.tables.exec = Jvm.exec) (hret : meth.sig.returnType = some .int) (hlk : meth.locks = false) {pc : Nat} {Ls : Array Slot} {z : Int32} {rest : List Value}
    (hd : decode c.code pc = .ok (.ireturn, 1)) {Q : Option Value → Heap → List Loc → Prop} {C S : Nat} (hQ : Q (some (.int z)) T.heap locs) (hC : cells ≤ C) (hS : slots ≤ S) :
    Go p.tables e below (EndsAs s C S Q) (T.setTop (mkF m pc Ls (.int z :: rest))) :=
  leafO X hx hret hlk rfl (Or.inl ⟨rfl, Or.inl rfl, _, rfl⟩) hd hQ hC hS
theorem leafJ (X : Stand p l e R s m args below meth c T locs cells slots) (hx : p.tables.exec = Jvm.exec) (hret : meth.sig.returnType = some .long) (hlk : meth.locks = false) {pc : Nat} {Ls : Array Slot} {z : Int64} {rest : List Value}
    (hd : decode c.code pc = .ok (.lreturn, 1)) {Q : Option Value → Heap → List Loc → Prop} {C S : Nat} (hQ : Q (some (.long z)) T.heap locs) (hC : cells ≤ C) (hS : slots ≤ S) :
    Go p.tables e below (EndsAs s C S Q) (T.setTop (mkF m pc Ls (.long z :: rest))) :=
  leafO X hx hret hlk rfl (Or.inr (Or.inl ⟨rfl, rfl, _, rfl⟩)) hd hQ hC hS
theorem leafA (X : Stand p l e R s m args below meth c T locs cells slots) (hx : p.tables.exec = Jvm.exec) {t : FieldType} (hret : meth.sig.returnType = some t) (ht : t.isReference = true) (hlk : meth.locks = false) {pc : Nat} {Ls : Array Slot} {w : Value} {rest : List Value} (hw : w.isRef = true) (hn : narrow t w = w)
    (hd : decode c.code pc = .ok (.areturn, 1)) {Q : Option Value → Heap → List Loc → Prop} {C S : Nat} (hQ : Q (some w) T.heap locs) (hC : cells ≤ C) (hS : slots ≤ S) :
    Go p.tables e below (EndsAs s C S Q) (T.setTop (mkF m pc Ls (w :: rest))) :=
  leafO X hx hret hlk hn (Or.inr (Or.inr (Or.inr (Or.inr ⟨rfl, ht, hw⟩)))) hd hQ hC hS
theorem leafN (X : Stand p l e R s m args below meth c T locs cells slots) (hx : p.tables.exec = Jvm.exec) {t : FieldType} (hret : meth.sig.returnType = some t) (ht : t = .boolean ∨ t = .byte ∨ t = .char ∨ t = .short) (hlk : meth.locks = false) {pc : Nat} {Ls : Array Slot} {z w : Int32} {rest : List Value} (hw : nar t z = w)
    (hd : decode c.code pc = .ok (.ireturn, 1)) {Q : Option Value → Heap → List Loc → Prop} {C S : Nat} (hQ : Q (some (.int w)) T.heap locs) (hC : cells ≤ C) (hS : slots ≤ S) :
    Go p.tables e below (EndsAs s C S Q) (T.setTop (mkF m pc Ls (.int z :: rest))) := by
  subst hw
  obtain ⟨fs, hr, hrun, hended, hW, hsame⟩ := X.leave (v := some (.int (nar t z))) (fun h => by rw [hret] at h; cases h) hlk
  exact ⟨_, _, retN X hx hret ht hd hr, hrun, hended, _, _, rfl, hQ, ⟨_, rfl⟩, hW, hsame.mono hC hS⟩
theorem leafV (X : Stand p l e R s m args below meth c T locs cells slots) (hx : p.tables.exec = Jvm.exec) (hret : meth.sig.returnType = none) (hlk : meth.locks = false) {pc : Nat} {Ls : Array Slot}
    (hd : decode c.code pc = .ok (.return_, 1)) {Q : Option Value → Heap → List Loc → Prop} {C S : Nat} (hQ : Q none T.heap locs) (hC : cells ≤ C) (hS : slots ≤ S) :
    Go p.tables e below (EndsAs s C S Q) (T.setTop (mkF m pc Ls [])) := by
  obtain ⟨fs, hr, hrun, hended, hW, hsame⟩ := X.leave (v := none) (fun _ => rfl) hlk
  exact ⟨_, _, X.returnOut hx hret hd hr, hrun, hended, _, _, rfl, hQ, ⟨_, rfl⟩, hW, hsame.mono hC hS⟩
theorem goS (X : Stand p l e R s m args below meth c T locs cells slots) (hx : p.tables.exec = Jvm.exec) (hZ : Z.Warmed39 s.vm) {own : String} {index : Nat} {y : MethodName} {bytes : ByteArray} {maxL : Nat} {ret : Option FieldType} (hown : s.vm.findClass own = some m.cls)
    (w1 : (Jvm.Cond.methodLink own index y).before a0 Z = true) (w2 : (Jvm.Cond.static y).before a0 Z = true) (w3 : (Jvm.Cond.initialized y.cls).before a0 Z = true) (w4 : (Jvm.Cond.code y bytes maxL ret).before a0 Z = true)
    (hy : y.cls ≠ "java/lang/invoke/MethodHandle" ∧ y.cls ≠ "java/lang/invoke/VarHandle") {rm : Room} {as : Array Value} {Qc : Option Value → Heap → List Loc → Prop} (hM : Con l Z y bytes maxL ret [] rm as h Qc) (eT : T.heap = h)
    {pc : Nat} {Ls : Array Slot} {st : List Value} (hsize : Ls.size = c.maxLocals) (argsL rest : List Value) (has : argsL.toArray = as) {ps : List FieldType} {r : Option FieldType} (hpd : parseMethodDescriptor y.desc = some ⟨ps, r⟩) (hlen : argsL.length = ps.length) (hst : st = argsL.reverse ++ rest)
    (W : Nat) (hW : (rest.map fun v => v.category).sum = W) (hd : decode c.code pc = .ok (.invokestatic index, 3)) (hf : rm.frames + 1 ≤ R.frames) (hl : W + (maxL + 11) + rm.locals ≤ R.locals) (hc : cells + rm.cells ≤ R.cells) (hs : slots + rm.slots ≤ R.slots) {P : Outcome → State → Prop}
    (k : ∀ (T' : State) (L : List Loc) (v : Option Value), Qc v T'.heap L → Stand p l e R s m args below meth c T' (locs ++ L) (cells + rm.cells) (slots + rm.slots) → Go p.tables e below P (T'.setTop (mkF m (pc + 3) Ls (v.toList ++ rest)))) :
    Go p.tables e below P (T.setTop (mkF m pc Ls st)) := by
  subst hst
  obtain ⟨v, _, ⟨T', L', k', n'⟩, -, X', ⟨L, hQ, q1, q2, q3⟩, st⟩ := Jvm.LawKit.callS X hx (y := y) hown (mvT hZ w1) (mvT hZ w2) (mvT hZ w3) (mvT hZ w4) hy (backOf (W := W) hM hZ w4 w3 hf hl) (g := mkF m pc Ls (argsL.reverse ++ rest)) rfl hsize (argsL := argsL) (rest := rest) (lenOf hpd hlen) rfl (by show 2 * 0 + _ ≤ _; omega) hd (fun _ _ => ⟨has, eT, hc, hs⟩)
  dsimp only [Pt.U, Pt.locs, Pt.cells, Pt.slots] at X' q1 q2 q3 st hQ
  subst q1 q2 q3
  exact Go.step st (k T' L v hQ X')
theorem goI (X : Stand p l e R s m args below meth c T locs cells slots) (hx : p.tables.exec = Jvm.exec) (hZ : Z.Warmed39 s.vm) {own : String} {index : Nat} {y : MethodName} {bytes : ByteArray} {maxL : Nat} (hy1 : y.name = "<init>") (hown : s.vm.findClass own = some m.cls)
    (w1 : (Jvm.Cond.methodLink own index y).before a0 Z = true) (w2 : (Jvm.Cond.instanceMethod y).before a0 Z = true) (w3 : (Jvm.Cond.initialized y.cls).before a0 Z = true) (w4 : (Jvm.Cond.code y bytes maxL none).before a0 Z = true)
    (hy : y.cls ≠ "java/lang/invoke/MethodHandle" ∧ y.cls ≠ "java/lang/invoke/VarHandle") {rm : Room} {as : Array Value} {Qc : Option Value → Heap → List Loc → Prop} (hM : Con l Z y bytes maxL none [] rm as h Qc) (eT : T.heap = h)
    {pc : Nat} {Ls : Array Slot} {st : List Value} (hsize : Ls.size = c.maxLocals) (a : Addr) (argsL rest : List Value) (has : (Value.ref a :: argsL).toArray = as) {ps : List FieldType} {r : Option FieldType} (hpd : parseMethodDescriptor y.desc = some ⟨ps, r⟩) (hlen : argsL.length = ps.length) (hst : st = argsL.reverse ++ .ref a :: rest)
    (W : Nat) (hW : (rest.map fun v => v.category).sum = W) (hd : decode c.code pc = .ok (.invokespecial index, 3)) (hf : rm.frames + 1 ≤ R.frames) (hl : W + (maxL + 11) + rm.locals ≤ R.locals) (hc : cells + rm.cells ≤ R.cells) (hs : slots + rm.slots ≤ R.slots) {P : Outcome → State → Prop}
    (k : ∀ (T' : State) (L : List Loc) (v : Option Value), Qc v T'.heap L → Stand p l e R s m args below meth c T' (locs ++ L) (cells + rm.cells) (slots + rm.slots) → Go p.tables e below P (T'.setTop (mkF m (pc + 3) Ls (v.toList ++ rest)))) :
    Go p.tables e below P (T.setTop (mkF m pc Ls st)) := by
  subst hst
  obtain ⟨v, _, ⟨T', L', k', n'⟩, -, X', ⟨L, hQ, q1, q2, q3⟩, st⟩ := X.specialBack hx (y := y) hy1 hown (mvT hZ w1) (mvT hZ w2) (mvT hZ w4) hy (backOf (W := W) hM hZ w4 w3 hf hl) (g := mkF m pc Ls (argsL.reverse ++ .ref a :: rest)) rfl hsize (Steps.refl _) (a := a) (argsL := argsL) (rest := rest) (lenOf hpd hlen) rfl (by show 2 * 0 + _ ≤ _; omega) hd (fun _ _ => ⟨has, eT, hc, hs⟩)
  dsimp only [Pt.U, Pt.locs, Pt.cells, Pt.slots] at X' q1 q2 q3 st hQ
  subst q1 q2 q3
  exact Go.via st (k T' L v hQ X')
theorem goV (X : Stand p l e R s m args below meth c T locs cells slots) (hx : p.tables.exec = Jvm.exec) (hZ : Z.Warmed39 s.vm) {own C : String} {index : Nat} {y z : MethodName} {bytes : ByteArray} {maxL : Nat} {ret : Option FieldType} (hown : s.vm.findClass own = some m.cls)
    (w1 : (Jvm.Cond.methodLink own index y).before a0 Z = true) (w2 : (Jvm.Cond.declares y).before a0 Z = true) (hnf : NotFace s y) (w5 : (Jvm.Cond.selects C y z).before a0 Z = true) (w6 : (Jvm.Cond.instanceMethod z).before a0 Z = true) (w3 : (Jvm.Cond.initialized z.cls).before a0 Z = true) (w4 : (Jvm.Cond.code z bytes maxL ret).before a0 Z = true)
    (hy : y.cls ≠ "java/lang/invoke/MethodHandle" ∧ y.cls ≠ "java/lang/invoke/VarHandle") {rm : Room} {as : Array Value} {Qc : Option Value → Heap → List Loc → Prop} (hM : Con l Z z bytes maxL ret [] rm as h Qc) (eT : T.heap = h)
    {a : Addr} (E : Exa Z h a C) {pc : Nat} {Ls : Array Slot} {st : List Value} (hsize : Ls.size = c.maxLocals) (argsL rest : List Value) (has : (Value.ref a :: argsL).toArray = as) {ps : List FieldType} {r : Option FieldType} (hpd : parseMethodDescriptor y.desc = some ⟨ps, r⟩) (hlen : argsL.length = ps.length) (hst : st = argsL.reverse ++ .ref a :: rest)
    (W : Nat) (hW : (rest.map fun v => v.category).sum = W) (hd : decode c.code pc = .ok (.invokevirtual index, 3)) (hf : rm.frames + 1 ≤ R.frames) (hl : W + (maxL + 11) + rm.locals ≤ R.locals) (hc : cells + rm.cells ≤ R.cells) (hs : slots + rm.slots ≤ R.slots) {P : Outcome → State → Prop}
    (k : ∀ (T' : State) (L : List Loc) (v : Option Value), Qc v T'.heap L → Stand p l e R s m args below meth c T' (locs ++ L) (cells + rm.cells) (slots + rm.slots) → Go p.tables e below P (T'.setTop (mkF m (pc + 3) Ls (v.toList ++ rest)))) :
    Go p.tables e below P (T.setTop (mkF m pc Ls st)) := by
  subst hst
  obtain ⟨cq, kq, qa, qb, qc⟩ := isOf hZ eT E
  obtain ⟨v, _, ⟨T', L', k', n'⟩, -, X', ⟨L, hQ, q1, q2, q3⟩, st⟩ := X.virtualBack hx (y := y) (z := z) hown (mvT hZ w1) (mvT hZ w2) hnf (mvT hZ w5) (mvT hZ w6) hy (backOf (W := W) hM hZ w4 w3 hf hl) qa qc (g := mkF m pc Ls (argsL.reverse ++ .ref a :: rest)) rfl hsize (Steps.refl _) (argsL := argsL) (rest := rest) (lenOf hpd hlen) rfl (by show 2 * 0 + _ ≤ _; omega) hd (fun _ _ => ⟨has, eT, hc, hs⟩)
  dsimp only [Pt.U, Pt.locs, Pt.cells, Pt.slots] at X' q1 q2 q3 st hQ
  subst q1 q2 q3
  exact Go.via st (k T' L v hQ X')
end Kit

/-! plain facts -/
def own_tile (c : Int32) : Int32 := if (65 ≤ c.toInt ∧ c.toInt ≤ 90) ∨ (97 ≤ c.toInt ∧ c.toInt ≤ 122) ∨ (48 ≤ c.toInt ∧ c.toInt ≤ 57) then 1 else 0
theorem own_lt {x y : Int32} : x < y ↔ x.toInt < y.toInt := Int32.lt_iff_toInt_lt
theorem own_or (c : Int32) : (97 ≤ (c ||| 32).toInt ∧ (c ||| 32).toInt ≤ 122) ↔ ((65 ≤ c.toInt ∧ c.toInt ≤ 90) ∨ (97 ≤ c.toInt ∧ c.toInt ≤ 122)) := by
  by_cases hn : c.toInt < 0
  · have := (c_orS c 32).2.1 hn; omega
  · by_cases hb : c.toInt < 128
    · have key : ∀ i : Fin 128, ((97 ≤ (Int32.ofInt (i.1 : Int) ||| 32).toInt ∧ (Int32.ofInt (i.1 : Int) ||| 32).toInt ≤ 122) ↔ ((65 ≤ (Int32.ofInt (i.1 : Int)).toInt ∧ (Int32.ofInt (i.1 : Int)).toInt ≤ 90) ∨ (97 ≤ (Int32.ofInt (i.1 : Int)).toInt ∧ (Int32.ofInt (i.1 : Int)).toInt ≤ 122))) := by decide +kernel
      have e : Int32.ofInt ((c.toInt.toNat : Nat) : Int) = c := by rw [Int.toNat_of_nonneg (by omega)]; exact Int32.ofInt_toInt c
      have := key ⟨c.toInt.toNat, by omega⟩
      rw [e] at this; exact this
    · have := c_or0 c 32 (by omega) (by decide); omega
theorem own_dig (c : Int32) : ((c.toInt64) - (48 : Int64)).toInt = c.toInt - 48 := by
  have h1 := c_lsub c.toInt64 48
  have h2 := c_i2l c
  have l1 := (c.toInt64 - 48).toInt_lt; have l2 := (c.toInt64 - 48).le_toInt
  have l3 := c.toInt_lt; have l4 := c.le_toInt
  have e : (48 : Int64).toInt = 48 := rfl
  rw [h2, e] at h1
  omega
theorem own_l0 : (0 : Int64).toInt = 0 := rfl
theorem own_l10 : (10 : Int64).toInt = 10 := rfl
theorem own_n : (48 : Int32).toInt = 48 ∧ (57 : Int32).toInt = 57 ∧ (65 : Int32).toInt = 65 ∧ (90 : Int32).toInt = 90 ∧ (97 : Int32).toInt = 97 ∧ (122 : Int32).toInt = 122 := by decide
theorem own_if1 {P : Prop} [Decidable P] (h : P) : (some (Value.int (1 : Int32))) = some (.int (if P then 1 else 0)) := by rw [if_pos h]
theorem own_if0 {P : Prop} [Decidable P] (h : ¬ P) : (some (Value.int (0 : Int32))) = some (.int (if P then 1 else 0)) := by rw [if_neg h]
theorem own_fitI {v : Value} (h : fits .int v = true) : ∃ x, v = .int x := by cases v <;> simp [fits] at h ⊢

theorem d1_0 : decode prog_9_method_3_code 0 = .ok (.iload_n 0, 1) := by decide +kernel
theorem d1_1 : decode prog_9_method_3_code 1 = .ok (.bipush 65, 2) := by decide +kernel
theorem d1_3 : decode prog_9_method_3_code 3 = .ok (.if_icmp .lt 9, 3) := by decide +kernel
theorem d1_6 : decode prog_9_method_3_code 6 = .ok (.iload_n 0, 1) := by decide +kernel
theorem d1_7 : decode prog_9_method_3_code 7 = .ok (.bipush 90, 2) := by decide +kernel
theorem d1_9 : decode prog_9_method_3_code 9 = .ok (.if_icmp .le 27, 3) := by decide +kernel
theorem d1_12 : decode prog_9_method_3_code 12 = .ok (.iload_n 0, 1) := by decide +kernel
theorem d1_13 : decode prog_9_method_3_code 13 = .ok (.bipush 97, 2) := by decide +kernel
theorem d1_15 : decode prog_9_method_3_code 15 = .ok (.if_icmp .lt 9, 3) := by decide +kernel
theorem d1_18 : decode prog_9_method_3_code 18 = .ok (.iload_n 0, 1) := by decide +kernel
theorem d1_19 : decode prog_9_method_3_code 19 = .ok (.bipush 122, 2) := by decide +kernel
theorem d1_21 : decode prog_9_method_3_code 21 = .ok (.if_icmp .le 15, 3) := by decide +kernel
theorem d1_24 : decode prog_9_method_3_code 24 = .ok (.iload_n 0, 1) := by decide +kernel
theorem d1_25 : decode prog_9_method_3_code 25 = .ok (.bipush 48, 2) := by decide +kernel
theorem d1_27 : decode prog_9_method_3_code 27 = .ok (.if_icmp .lt 13, 3) := by decide +kernel
theorem d1_30 : decode prog_9_method_3_code 30 = .ok (.iload_n 0, 1) := by decide +kernel
theorem d1_31 : decode prog_9_method_3_code 31 = .ok (.bipush 57, 2) := by decide +kernel
theorem d1_33 : decode prog_9_method_3_code 33 = .ok (.if_icmp .gt 7, 3) := by decide +kernel
theorem d1_36 : decode prog_9_method_3_code 36 = .ok (.iconst 1, 1) := by decide +kernel
theorem d1_37 : decode prog_9_method_3_code 37 = .ok (.goto 4, 3) := by decide +kernel
theorem d1_40 : decode prog_9_method_3_code 40 = .ok (.iconst 0, 1) := by decide +kernel
theorem d1_41 : decode prog_9_method_3_code 41 = .ok (.ireturn, 1) := by decide +kernel
theorem pn1 : plainFor (⟨"tesserae/link/LinkBoard", "isTile", "(I)Z"⟩ : MethodName) = true := plainFor_of_name (by first | (simp [plainName, overriddenIn]; done) | decide +kernel)
theorem pd1 : parseMethodDescriptor "(I)Z" = some ⟨[.int], some .boolean⟩ := by decide +kernel
theorem ef1 (m : MethodId) (x0 : Int32) : entryFrame m #[(.int x0)] 1 = mkF m 0 #[.val (.int x0)] [] := by first | (simp [entryFrame, mkF, argsToLocals, Value.category]; done) | rfl
theorem d2_0 : decode method_3_code 0 = .ok (.iload_n 0, 1) := by decide +kernel
theorem d2_1 : decode method_3_code 1 = .ok (.i2l, 1) := by decide +kernel
theorem d2_2 : decode method_3_code 2 = .ok (.ldc2_w 18, 3) := by decide +kernel
theorem d2_5 : decode method_3_code 5 = .ok (.lsub, 1) := by decide +kernel
theorem d2_6 : decode method_3_code 6 = .ok (.lstore_n 1, 1) := by decide +kernel
theorem d2_7 : decode method_3_code 7 = .ok (.lload_n 1, 1) := by decide +kernel
theorem d2_8 : decode method_3_code 8 = .ok (.lconst 0, 1) := by decide +kernel
theorem d2_9 : decode method_3_code 9 = .ok (.lcmp, 1) := by decide +kernel
theorem d2_10 : decode method_3_code 10 = .ok (.ifCond .lt 15, 3) := by decide +kernel
theorem d2_13 : decode method_3_code 13 = .ok (.lload_n 1, 1) := by decide +kernel
theorem d2_14 : decode method_3_code 14 = .ok (.ldc2_w 20, 3) := by decide +kernel
theorem d2_17 : decode method_3_code 17 = .ok (.lcmp, 1) := by decide +kernel
theorem d2_18 : decode method_3_code 18 = .ok (.ifCond .ge 7, 3) := by decide +kernel
theorem d2_21 : decode method_3_code 21 = .ok (.iconst 1, 1) := by decide +kernel
theorem d2_22 : decode method_3_code 22 = .ok (.goto 4, 3) := by decide +kernel
theorem d2_25 : decode method_3_code 25 = .ok (.iconst 0, 1) := by decide +kernel
theorem d2_26 : decode method_3_code 26 = .ok (.istore_n 3, 1) := by decide +kernel
theorem d2_27 : decode method_3_code 27 = .ok (.iload_n 0, 1) := by decide +kernel
theorem d2_28 : decode method_3_code 28 = .ok (.bipush 32, 2) := by decide +kernel
theorem d2_30 : decode method_3_code 30 = .ok (.ior, 1) := by decide +kernel
theorem d2_31 : decode method_3_code 31 = .ok (.istore 4, 2) := by decide +kernel
theorem d2_33 : decode method_3_code 33 = .ok (.iload 4, 2) := by decide +kernel
theorem d2_35 : decode method_3_code 35 = .ok (.bipush 97, 2) := by decide +kernel
theorem d2_37 : decode method_3_code 37 = .ok (.if_icmp .lt 14, 3) := by decide +kernel
theorem d2_40 : decode method_3_code 40 = .ok (.iload 4, 2) := by decide +kernel
theorem d2_42 : decode method_3_code 42 = .ok (.bipush 122, 2) := by decide +kernel
theorem d2_44 : decode method_3_code 44 = .ok (.if_icmp .gt 7, 3) := by decide +kernel
theorem d2_47 : decode method_3_code 47 = .ok (.iconst 1, 1) := by decide +kernel
theorem d2_48 : decode method_3_code 48 = .ok (.goto 4, 3) := by decide +kernel
theorem d2_51 : decode method_3_code 51 = .ok (.iconst 0, 1) := by decide +kernel
theorem d2_52 : decode method_3_code 52 = .ok (.istore 5, 2) := by decide +kernel
theorem d2_54 : decode method_3_code 54 = .ok (.iload_n 3, 1) := by decide +kernel
theorem d2_55 : decode method_3_code 55 = .ok (.ifCond .ne 8, 3) := by decide +kernel
theorem d2_58 : decode method_3_code 58 = .ok (.iload 5, 2) := by decide +kernel
theorem d2_60 : decode method_3_code 60 = .ok (.ifCond .eq 7, 3) := by decide +kernel
theorem d2_63 : decode method_3_code 63 = .ok (.iconst 1, 1) := by decide +kernel
theorem d2_64 : decode method_3_code 64 = .ok (.goto 4, 3) := by decide +kernel
theorem d2_67 : decode method_3_code 67 = .ok (.iconst 0, 1) := by decide +kernel
theorem d2_68 : decode method_3_code 68 = .ok (.ireturn, 1) := by decide +kernel
theorem pn2 : plainFor (⟨"tesserae/link/LinkBoardIsTilePinLaw", "reference", "(I)Z"⟩ : MethodName) = true := plainFor_of_name (by first | (simp [plainName, overriddenIn]; done) | decide +kernel)
theorem pd2 : parseMethodDescriptor "(I)Z" = some ⟨[.int], some .boolean⟩ := by decide +kernel
theorem ef2 (m : MethodId) (x0 : Int32) : entryFrame m #[(.int x0)] 6 = mkF m 0 #[.val (.int x0), .unset, .unset, .unset, .unset, .unset] [] := by first | (simp [entryFrame, mkF, argsToLocals, Value.category]; done) | rfl
set_option maxRecDepth 65536 in
set_option maxHeartbeats 40000000 in
theorem rm1 (l : Launch) (Z : State) (a0 : Array Value) (hw : ∀ d ∈ tables_1, d.before a0 Z = true) (ws : List Jvm.Cond) (x0 : Int32) (h0 : Heap) : Con l Z (⟨"tesserae/link/LinkBoard", "isTile", "(I)Z"⟩ : MethodName) prog_9_method_3_code 1 (some .boolean) ws ({ frames := 0, cells := 0, slots := 0, locals := 0 } : Room) #[(.int x0)] h0 (fun v h L => v = some (.int (own_tile x0)) ∧ h = h0 ∧ L = []) := by
  refine Con.of pn1 fun p e s m below meth c s₁ hZ hx hby hml hown hret hlk hnm X0 e0 => ?_
  rw [ef1]
  show Go _ _ _ _ (s₁.setTop (mkF m 0 #[.val (.int x0)] []))
  refine Go.step (fun _ k => XS.iloadN X0.here hx rfl (hb hby d1_0) rfl k) ?_
  show Go _ _ _ _ (s₁.setTop (mkF m 1 #[.val (.int x0)] [(.int x0)]))
  refine Go.step (fun _ k => XS.bipush X0.here hx rfl (hb hby d1_1) k) ?_
  show Go _ _ _ _ (s₁.setTop (mkF m 3 #[.val (.int x0)] [(.int (65 : Int32)), (.int x0)]))
  by_cases hc1 : x0 < (65 : Int32)
  · refine Go.step (fun _ k => XS.icmpYes X0.here hx rfl (pc0 := 3) (pc' := 12) rfl (hb hby d1_3) rfl (tlt hc1).1 (by decide) (by decide) k) ?_
    show Go _ _ _ _ (s₁.setTop (mkF m 12 #[.val (.int x0)] []))
    refine Go.step (fun _ k => XS.iloadN X0.here hx rfl (hb hby d1_12) rfl k) ?_
    show Go _ _ _ _ (s₁.setTop (mkF m 13 #[.val (.int x0)] [(.int x0)]))
    refine Go.step (fun _ k => XS.bipush X0.here hx rfl (hb hby d1_13) k) ?_
    show Go _ _ _ _ (s₁.setTop (mkF m 15 #[.val (.int x0)] [(.int (97 : Int32)), (.int x0)]))
    by_cases hc2 : x0 < (97 : Int32)
    · refine Go.step (fun _ k => XS.icmpYes X0.here hx rfl (pc0 := 15) (pc' := 24) rfl (hb hby d1_15) rfl (tlt hc2).1 (by decide) (by decide) k) ?_
      show Go _ _ _ _ (s₁.setTop (mkF m 24 #[.val (.int x0)] []))
      refine Go.step (fun _ k => XS.iloadN X0.here hx rfl (hb hby d1_24) rfl k) ?_
      show Go _ _ _ _ (s₁.setTop (mkF m 25 #[.val (.int x0)] [(.int x0)]))
      refine Go.step (fun _ k => XS.bipush X0.here hx rfl (hb hby d1_25) k) ?_
      show Go _ _ _ _ (s₁.setTop (mkF m 27 #[.val (.int x0)] [(.int (48 : Int32)), (.int x0)]))
      by_cases hc3 : x0 < (48 : Int32)
      · refine Go.step (fun _ k => XS.icmpYes X0.here hx rfl (pc0 := 27) (pc' := 40) rfl (hb hby d1_27) rfl (tlt hc3).1 (by decide) (by decide) k) ?_
        show Go _ _ _ _ (s₁.setTop (mkF m 40 #[.val (.int x0)] []))
        refine Go.step (fun _ k => XS.iconst X0.here hx rfl (hb hby d1_40) k) ?_
        show Go _ _ _ _ (s₁.setTop (mkF m 41 #[.val (.int x0)] [(.int (0 : Int32))]))
        have hz4 : ¬ ((65 ≤ x0.toInt ∧ x0.toInt ≤ 90) ∨ (97 ≤ x0.toInt ∧ x0.toInt ≤ 122) ∨ (48 ≤ x0.toInt ∧ x0.toInt ≤ 57)) := by
          obtain ⟨n1, n2, n3, n4, n5, n6⟩ := own_n
          rw [own_lt] at hc1 hc2 hc3
          omega
        exact leafN X0 hx (t := .boolean) hret (by simp) hlk (w := (0 : Int32)) rfl (hb hby d1_41) ⟨own_if0 hz4, e0, rfl⟩ (by decide) (by decide)
      · refine Go.step (fun _ k => XS.icmpNo X0.here hx rfl (hb hby d1_27) rfl (flt hc3).1 k) ?_
        show Go _ _ _ _ (s₁.setTop (mkF m 30 #[.val (.int x0)] []))
        refine Go.step (fun _ k => XS.iloadN X0.here hx rfl (hb hby d1_30) rfl k) ?_
        show Go _ _ _ _ (s₁.setTop (mkF m 31 #[.val (.int x0)] [(.int x0)]))
        refine Go.step (fun _ k => XS.bipush X0.here hx rfl (hb hby d1_31) k) ?_
        show Go _ _ _ _ (s₁.setTop (mkF m 33 #[.val (.int x0)] [(.int (57 : Int32)), (.int x0)]))
        by_cases hc5 : (57 : Int32) < x0
        · refine Go.step (fun _ k => XS.icmpYes X0.here hx rfl (pc0 := 33) (pc' := 40) rfl (hb hby d1_33) rfl (tlt hc5).2.2.1 (by decide) (by decide) k) ?_
          show Go _ _ _ _ (s₁.setTop (mkF m 40 #[.val (.int x0)] []))
          refine Go.step (fun _ k => XS.iconst X0.here hx rfl (hb hby d1_40) k) ?_
          show Go _ _ _ _ (s₁.setTop (mkF m 41 #[.val (.int x0)] [(.int (0 : Int32))]))
          have hz6 : ¬ ((65 ≤ x0.toInt ∧ x0.toInt ≤ 90) ∨ (97 ≤ x0.toInt ∧ x0.toInt ≤ 122) ∨ (48 ≤ x0.toInt ∧ x0.toInt ≤ 57)) := by
            obtain ⟨n1, n2, n3, n4, n5, n6⟩ := own_n
            rw [own_lt] at hc1 hc2 hc3 hc5
            omega
          exact leafN X0 hx (t := .boolean) hret (by simp) hlk (w := (0 : Int32)) rfl (hb hby d1_41) ⟨own_if0 hz6, e0, rfl⟩ (by decide) (by decide)
        · refine Go.step (fun _ k => XS.icmpNo X0.here hx rfl (hb hby d1_33) rfl (flt hc5).2.2.1 k) ?_
          show Go _ _ _ _ (s₁.setTop (mkF m 36 #[.val (.int x0)] []))
          refine Go.step (fun _ k => XS.iconst X0.here hx rfl (hb hby d1_36) k) ?_
          show Go _ _ _ _ (s₁.setTop (mkF m 37 #[.val (.int x0)] [(.int (1 : Int32))]))
          refine Go.step (fun _ k => XS.goto X0.here hx rfl (pc0 := 37) (pc' := 41) rfl (hb hby d1_37) (by decide) (by decide) k) ?_
          show Go _ _ _ _ (s₁.setTop (mkF m 41 #[.val (.int x0)] [(.int (1 : Int32))]))
          have hz7 : ((65 ≤ x0.toInt ∧ x0.toInt ≤ 90) ∨ (97 ≤ x0.toInt ∧ x0.toInt ≤ 122) ∨ (48 ≤ x0.toInt ∧ x0.toInt ≤ 57)) := by
            obtain ⟨n1, n2, n3, n4, n5, n6⟩ := own_n
            rw [own_lt] at hc1 hc2 hc3 hc5
            omega
          exact leafN X0 hx (t := .boolean) hret (by simp) hlk (w := (1 : Int32)) rfl (hb hby d1_41) ⟨own_if1 hz7, e0, rfl⟩ (by decide) (by decide)
    · refine Go.step (fun _ k => XS.icmpNo X0.here hx rfl (hb hby d1_15) rfl (flt hc2).1 k) ?_
      show Go _ _ _ _ (s₁.setTop (mkF m 18 #[.val (.int x0)] []))
      refine Go.step (fun _ k => XS.iloadN X0.here hx rfl (hb hby d1_18) rfl k) ?_
      show Go _ _ _ _ (s₁.setTop (mkF m 19 #[.val (.int x0)] [(.int x0)]))
      refine Go.step (fun _ k => XS.bipush X0.here hx rfl (hb hby d1_19) k) ?_
      show Go _ _ _ _ (s₁.setTop (mkF m 21 #[.val (.int x0)] [(.int (122 : Int32)), (.int x0)]))
      by_cases hc8 : (122 : Int32) < x0
      · refine Go.step (fun _ k => XS.icmpNo X0.here hx rfl (hb hby d1_21) rfl (tlt hc8).2.2.2 k) ?_
        show Go _ _ _ _ (s₁.setTop (mkF m 24 #[.val (.int x0)] []))
        refine Go.step (fun _ k => XS.iloadN X0.here hx rfl (hb hby d1_24) rfl k) ?_
        show Go _ _ _ _ (s₁.setTop (mkF m 25 #[.val (.int x0)] [(.int x0)]))
        refine Go.step (fun _ k => XS.bipush X0.here hx rfl (hb hby d1_25) k) ?_
        show Go _ _ _ _ (s₁.setTop (mkF m 27 #[.val (.int x0)] [(.int (48 : Int32)), (.int x0)]))
        by_cases hc9 : x0 < (48 : Int32)
        · refine Go.step (fun _ k => XS.icmpYes X0.here hx rfl (pc0 := 27) (pc' := 40) rfl (hb hby d1_27) rfl (tlt hc9).1 (by decide) (by decide) k) ?_
          show Go _ _ _ _ (s₁.setTop (mkF m 40 #[.val (.int x0)] []))
          refine Go.step (fun _ k => XS.iconst X0.here hx rfl (hb hby d1_40) k) ?_
          show Go _ _ _ _ (s₁.setTop (mkF m 41 #[.val (.int x0)] [(.int (0 : Int32))]))
          have hz10 : ¬ ((65 ≤ x0.toInt ∧ x0.toInt ≤ 90) ∨ (97 ≤ x0.toInt ∧ x0.toInt ≤ 122) ∨ (48 ≤ x0.toInt ∧ x0.toInt ≤ 57)) := by
            obtain ⟨n1, n2, n3, n4, n5, n6⟩ := own_n
            rw [own_lt] at hc1 hc2 hc8 hc9
            omega
          exact leafN X0 hx (t := .boolean) hret (by simp) hlk (w := (0 : Int32)) rfl (hb hby d1_41) ⟨own_if0 hz10, e0, rfl⟩ (by decide) (by decide)
        · refine Go.step (fun _ k => XS.icmpNo X0.here hx rfl (hb hby d1_27) rfl (flt hc9).1 k) ?_
          show Go _ _ _ _ (s₁.setTop (mkF m 30 #[.val (.int x0)] []))
          refine Go.step (fun _ k => XS.iloadN X0.here hx rfl (hb hby d1_30) rfl k) ?_
          show Go _ _ _ _ (s₁.setTop (mkF m 31 #[.val (.int x0)] [(.int x0)]))
          refine Go.step (fun _ k => XS.bipush X0.here hx rfl (hb hby d1_31) k) ?_
          show Go _ _ _ _ (s₁.setTop (mkF m 33 #[.val (.int x0)] [(.int (57 : Int32)), (.int x0)]))
          by_cases hc11 : (57 : Int32) < x0
          · refine Go.step (fun _ k => XS.icmpYes X0.here hx rfl (pc0 := 33) (pc' := 40) rfl (hb hby d1_33) rfl (tlt hc11).2.2.1 (by decide) (by decide) k) ?_
            show Go _ _ _ _ (s₁.setTop (mkF m 40 #[.val (.int x0)] []))
            refine Go.step (fun _ k => XS.iconst X0.here hx rfl (hb hby d1_40) k) ?_
            show Go _ _ _ _ (s₁.setTop (mkF m 41 #[.val (.int x0)] [(.int (0 : Int32))]))
            have hz12 : ¬ ((65 ≤ x0.toInt ∧ x0.toInt ≤ 90) ∨ (97 ≤ x0.toInt ∧ x0.toInt ≤ 122) ∨ (48 ≤ x0.toInt ∧ x0.toInt ≤ 57)) := by
              obtain ⟨n1, n2, n3, n4, n5, n6⟩ := own_n
              rw [own_lt] at hc1 hc2 hc8 hc9 hc11
              omega
            exact leafN X0 hx (t := .boolean) hret (by simp) hlk (w := (0 : Int32)) rfl (hb hby d1_41) ⟨own_if0 hz12, e0, rfl⟩ (by decide) (by decide)
          · refine Go.step (fun _ k => XS.icmpNo X0.here hx rfl (hb hby d1_33) rfl (flt hc11).2.2.1 k) ?_
            show Go _ _ _ _ (s₁.setTop (mkF m 36 #[.val (.int x0)] []))
            refine Go.step (fun _ k => XS.iconst X0.here hx rfl (hb hby d1_36) k) ?_
            show Go _ _ _ _ (s₁.setTop (mkF m 37 #[.val (.int x0)] [(.int (1 : Int32))]))
            refine Go.step (fun _ k => XS.goto X0.here hx rfl (pc0 := 37) (pc' := 41) rfl (hb hby d1_37) (by decide) (by decide) k) ?_
            show Go _ _ _ _ (s₁.setTop (mkF m 41 #[.val (.int x0)] [(.int (1 : Int32))]))
            have hz13 : ((65 ≤ x0.toInt ∧ x0.toInt ≤ 90) ∨ (97 ≤ x0.toInt ∧ x0.toInt ≤ 122) ∨ (48 ≤ x0.toInt ∧ x0.toInt ≤ 57)) := by
              obtain ⟨n1, n2, n3, n4, n5, n6⟩ := own_n
              rw [own_lt] at hc1 hc2 hc8 hc9 hc11
              omega
            exact leafN X0 hx (t := .boolean) hret (by simp) hlk (w := (1 : Int32)) rfl (hb hby d1_41) ⟨own_if1 hz13, e0, rfl⟩ (by decide) (by decide)
      · refine Go.step (fun _ k => XS.icmpYes X0.here hx rfl (pc0 := 21) (pc' := 36) rfl (hb hby d1_21) rfl (flt hc8).2.2.2 (by decide) (by decide) k) ?_
        show Go _ _ _ _ (s₁.setTop (mkF m 36 #[.val (.int x0)] []))
        refine Go.step (fun _ k => XS.iconst X0.here hx rfl (hb hby d1_36) k) ?_
        show Go _ _ _ _ (s₁.setTop (mkF m 37 #[.val (.int x0)] [(.int (1 : Int32))]))
        refine Go.step (fun _ k => XS.goto X0.here hx rfl (pc0 := 37) (pc' := 41) rfl (hb hby d1_37) (by decide) (by decide) k) ?_
        show Go _ _ _ _ (s₁.setTop (mkF m 41 #[.val (.int x0)] [(.int (1 : Int32))]))
        have hz14 : ((65 ≤ x0.toInt ∧ x0.toInt ≤ 90) ∨ (97 ≤ x0.toInt ∧ x0.toInt ≤ 122) ∨ (48 ≤ x0.toInt ∧ x0.toInt ≤ 57)) := by
          obtain ⟨n1, n2, n3, n4, n5, n6⟩ := own_n
          rw [own_lt] at hc1 hc2 hc8
          omega
        exact leafN X0 hx (t := .boolean) hret (by simp) hlk (w := (1 : Int32)) rfl (hb hby d1_41) ⟨own_if1 hz14, e0, rfl⟩ (by decide) (by decide)
  · refine Go.step (fun _ k => XS.icmpNo X0.here hx rfl (hb hby d1_3) rfl (flt hc1).1 k) ?_
    show Go _ _ _ _ (s₁.setTop (mkF m 6 #[.val (.int x0)] []))
    refine Go.step (fun _ k => XS.iloadN X0.here hx rfl (hb hby d1_6) rfl k) ?_
    show Go _ _ _ _ (s₁.setTop (mkF m 7 #[.val (.int x0)] [(.int x0)]))
    refine Go.step (fun _ k => XS.bipush X0.here hx rfl (hb hby d1_7) k) ?_
    show Go _ _ _ _ (s₁.setTop (mkF m 9 #[.val (.int x0)] [(.int (90 : Int32)), (.int x0)]))
    by_cases hc15 : (90 : Int32) < x0
    · refine Go.step (fun _ k => XS.icmpNo X0.here hx rfl (hb hby d1_9) rfl (tlt hc15).2.2.2 k) ?_
      show Go _ _ _ _ (s₁.setTop (mkF m 12 #[.val (.int x0)] []))
      refine Go.step (fun _ k => XS.iloadN X0.here hx rfl (hb hby d1_12) rfl k) ?_
      show Go _ _ _ _ (s₁.setTop (mkF m 13 #[.val (.int x0)] [(.int x0)]))
      refine Go.step (fun _ k => XS.bipush X0.here hx rfl (hb hby d1_13) k) ?_
      show Go _ _ _ _ (s₁.setTop (mkF m 15 #[.val (.int x0)] [(.int (97 : Int32)), (.int x0)]))
      by_cases hc16 : x0 < (97 : Int32)
      · refine Go.step (fun _ k => XS.icmpYes X0.here hx rfl (pc0 := 15) (pc' := 24) rfl (hb hby d1_15) rfl (tlt hc16).1 (by decide) (by decide) k) ?_
        show Go _ _ _ _ (s₁.setTop (mkF m 24 #[.val (.int x0)] []))
        refine Go.step (fun _ k => XS.iloadN X0.here hx rfl (hb hby d1_24) rfl k) ?_
        show Go _ _ _ _ (s₁.setTop (mkF m 25 #[.val (.int x0)] [(.int x0)]))
        refine Go.step (fun _ k => XS.bipush X0.here hx rfl (hb hby d1_25) k) ?_
        show Go _ _ _ _ (s₁.setTop (mkF m 27 #[.val (.int x0)] [(.int (48 : Int32)), (.int x0)]))
        by_cases hc17 : x0 < (48 : Int32)
        · refine Go.step (fun _ k => XS.icmpYes X0.here hx rfl (pc0 := 27) (pc' := 40) rfl (hb hby d1_27) rfl (tlt hc17).1 (by decide) (by decide) k) ?_
          show Go _ _ _ _ (s₁.setTop (mkF m 40 #[.val (.int x0)] []))
          refine Go.step (fun _ k => XS.iconst X0.here hx rfl (hb hby d1_40) k) ?_
          show Go _ _ _ _ (s₁.setTop (mkF m 41 #[.val (.int x0)] [(.int (0 : Int32))]))
          have hz18 : ¬ ((65 ≤ x0.toInt ∧ x0.toInt ≤ 90) ∨ (97 ≤ x0.toInt ∧ x0.toInt ≤ 122) ∨ (48 ≤ x0.toInt ∧ x0.toInt ≤ 57)) := by
            obtain ⟨n1, n2, n3, n4, n5, n6⟩ := own_n
            rw [own_lt] at hc1 hc15 hc16 hc17
            omega
          exact leafN X0 hx (t := .boolean) hret (by simp) hlk (w := (0 : Int32)) rfl (hb hby d1_41) ⟨own_if0 hz18, e0, rfl⟩ (by decide) (by decide)
        · refine Go.step (fun _ k => XS.icmpNo X0.here hx rfl (hb hby d1_27) rfl (flt hc17).1 k) ?_
          show Go _ _ _ _ (s₁.setTop (mkF m 30 #[.val (.int x0)] []))
          refine Go.step (fun _ k => XS.iloadN X0.here hx rfl (hb hby d1_30) rfl k) ?_
          show Go _ _ _ _ (s₁.setTop (mkF m 31 #[.val (.int x0)] [(.int x0)]))
          refine Go.step (fun _ k => XS.bipush X0.here hx rfl (hb hby d1_31) k) ?_
          show Go _ _ _ _ (s₁.setTop (mkF m 33 #[.val (.int x0)] [(.int (57 : Int32)), (.int x0)]))
          by_cases hc19 : (57 : Int32) < x0
          · refine Go.step (fun _ k => XS.icmpYes X0.here hx rfl (pc0 := 33) (pc' := 40) rfl (hb hby d1_33) rfl (tlt hc19).2.2.1 (by decide) (by decide) k) ?_
            show Go _ _ _ _ (s₁.setTop (mkF m 40 #[.val (.int x0)] []))
            refine Go.step (fun _ k => XS.iconst X0.here hx rfl (hb hby d1_40) k) ?_
            show Go _ _ _ _ (s₁.setTop (mkF m 41 #[.val (.int x0)] [(.int (0 : Int32))]))
            have hz20 : ¬ ((65 ≤ x0.toInt ∧ x0.toInt ≤ 90) ∨ (97 ≤ x0.toInt ∧ x0.toInt ≤ 122) ∨ (48 ≤ x0.toInt ∧ x0.toInt ≤ 57)) := by
              obtain ⟨n1, n2, n3, n4, n5, n6⟩ := own_n
              rw [own_lt] at hc1 hc15 hc16 hc17 hc19
              omega
            exact leafN X0 hx (t := .boolean) hret (by simp) hlk (w := (0 : Int32)) rfl (hb hby d1_41) ⟨own_if0 hz20, e0, rfl⟩ (by decide) (by decide)
          · refine Go.step (fun _ k => XS.icmpNo X0.here hx rfl (hb hby d1_33) rfl (flt hc19).2.2.1 k) ?_
            show Go _ _ _ _ (s₁.setTop (mkF m 36 #[.val (.int x0)] []))
            refine Go.step (fun _ k => XS.iconst X0.here hx rfl (hb hby d1_36) k) ?_
            show Go _ _ _ _ (s₁.setTop (mkF m 37 #[.val (.int x0)] [(.int (1 : Int32))]))
            refine Go.step (fun _ k => XS.goto X0.here hx rfl (pc0 := 37) (pc' := 41) rfl (hb hby d1_37) (by decide) (by decide) k) ?_
            show Go _ _ _ _ (s₁.setTop (mkF m 41 #[.val (.int x0)] [(.int (1 : Int32))]))
            have hz21 : ((65 ≤ x0.toInt ∧ x0.toInt ≤ 90) ∨ (97 ≤ x0.toInt ∧ x0.toInt ≤ 122) ∨ (48 ≤ x0.toInt ∧ x0.toInt ≤ 57)) := by
              obtain ⟨n1, n2, n3, n4, n5, n6⟩ := own_n
              rw [own_lt] at hc1 hc15 hc16 hc17 hc19
              omega
            exact leafN X0 hx (t := .boolean) hret (by simp) hlk (w := (1 : Int32)) rfl (hb hby d1_41) ⟨own_if1 hz21, e0, rfl⟩ (by decide) (by decide)
      · refine Go.step (fun _ k => XS.icmpNo X0.here hx rfl (hb hby d1_15) rfl (flt hc16).1 k) ?_
        show Go _ _ _ _ (s₁.setTop (mkF m 18 #[.val (.int x0)] []))
        refine Go.step (fun _ k => XS.iloadN X0.here hx rfl (hb hby d1_18) rfl k) ?_
        show Go _ _ _ _ (s₁.setTop (mkF m 19 #[.val (.int x0)] [(.int x0)]))
        refine Go.step (fun _ k => XS.bipush X0.here hx rfl (hb hby d1_19) k) ?_
        show Go _ _ _ _ (s₁.setTop (mkF m 21 #[.val (.int x0)] [(.int (122 : Int32)), (.int x0)]))
        by_cases hc22 : (122 : Int32) < x0
        · refine Go.step (fun _ k => XS.icmpNo X0.here hx rfl (hb hby d1_21) rfl (tlt hc22).2.2.2 k) ?_
          show Go _ _ _ _ (s₁.setTop (mkF m 24 #[.val (.int x0)] []))
          refine Go.step (fun _ k => XS.iloadN X0.here hx rfl (hb hby d1_24) rfl k) ?_
          show Go _ _ _ _ (s₁.setTop (mkF m 25 #[.val (.int x0)] [(.int x0)]))
          refine Go.step (fun _ k => XS.bipush X0.here hx rfl (hb hby d1_25) k) ?_
          show Go _ _ _ _ (s₁.setTop (mkF m 27 #[.val (.int x0)] [(.int (48 : Int32)), (.int x0)]))
          by_cases hc23 : x0 < (48 : Int32)
          · refine Go.step (fun _ k => XS.icmpYes X0.here hx rfl (pc0 := 27) (pc' := 40) rfl (hb hby d1_27) rfl (tlt hc23).1 (by decide) (by decide) k) ?_
            show Go _ _ _ _ (s₁.setTop (mkF m 40 #[.val (.int x0)] []))
            refine Go.step (fun _ k => XS.iconst X0.here hx rfl (hb hby d1_40) k) ?_
            show Go _ _ _ _ (s₁.setTop (mkF m 41 #[.val (.int x0)] [(.int (0 : Int32))]))
            have hz24 : ¬ ((65 ≤ x0.toInt ∧ x0.toInt ≤ 90) ∨ (97 ≤ x0.toInt ∧ x0.toInt ≤ 122) ∨ (48 ≤ x0.toInt ∧ x0.toInt ≤ 57)) := by
              obtain ⟨n1, n2, n3, n4, n5, n6⟩ := own_n
              rw [own_lt] at hc1 hc15 hc16 hc22 hc23
              omega
            exact leafN X0 hx (t := .boolean) hret (by simp) hlk (w := (0 : Int32)) rfl (hb hby d1_41) ⟨own_if0 hz24, e0, rfl⟩ (by decide) (by decide)
          · refine Go.step (fun _ k => XS.icmpNo X0.here hx rfl (hb hby d1_27) rfl (flt hc23).1 k) ?_
            show Go _ _ _ _ (s₁.setTop (mkF m 30 #[.val (.int x0)] []))
            refine Go.step (fun _ k => XS.iloadN X0.here hx rfl (hb hby d1_30) rfl k) ?_
            show Go _ _ _ _ (s₁.setTop (mkF m 31 #[.val (.int x0)] [(.int x0)]))
            refine Go.step (fun _ k => XS.bipush X0.here hx rfl (hb hby d1_31) k) ?_
            show Go _ _ _ _ (s₁.setTop (mkF m 33 #[.val (.int x0)] [(.int (57 : Int32)), (.int x0)]))
            by_cases hc25 : (57 : Int32) < x0
            · refine Go.step (fun _ k => XS.icmpYes X0.here hx rfl (pc0 := 33) (pc' := 40) rfl (hb hby d1_33) rfl (tlt hc25).2.2.1 (by decide) (by decide) k) ?_
              show Go _ _ _ _ (s₁.setTop (mkF m 40 #[.val (.int x0)] []))
              refine Go.step (fun _ k => XS.iconst X0.here hx rfl (hb hby d1_40) k) ?_
              show Go _ _ _ _ (s₁.setTop (mkF m 41 #[.val (.int x0)] [(.int (0 : Int32))]))
              have hz26 : ¬ ((65 ≤ x0.toInt ∧ x0.toInt ≤ 90) ∨ (97 ≤ x0.toInt ∧ x0.toInt ≤ 122) ∨ (48 ≤ x0.toInt ∧ x0.toInt ≤ 57)) := by
                obtain ⟨n1, n2, n3, n4, n5, n6⟩ := own_n
                rw [own_lt] at hc1 hc15 hc16 hc22 hc23 hc25
                omega
              exact leafN X0 hx (t := .boolean) hret (by simp) hlk (w := (0 : Int32)) rfl (hb hby d1_41) ⟨own_if0 hz26, e0, rfl⟩ (by decide) (by decide)
            · refine Go.step (fun _ k => XS.icmpNo X0.here hx rfl (hb hby d1_33) rfl (flt hc25).2.2.1 k) ?_
              show Go _ _ _ _ (s₁.setTop (mkF m 36 #[.val (.int x0)] []))
              refine Go.step (fun _ k => XS.iconst X0.here hx rfl (hb hby d1_36) k) ?_
              show Go _ _ _ _ (s₁.setTop (mkF m 37 #[.val (.int x0)] [(.int (1 : Int32))]))
              refine Go.step (fun _ k => XS.goto X0.here hx rfl (pc0 := 37) (pc' := 41) rfl (hb hby d1_37) (by decide) (by decide) k) ?_
              show Go _ _ _ _ (s₁.setTop (mkF m 41 #[.val (.int x0)] [(.int (1 : Int32))]))
              have hz27 : ((65 ≤ x0.toInt ∧ x0.toInt ≤ 90) ∨ (97 ≤ x0.toInt ∧ x0.toInt ≤ 122) ∨ (48 ≤ x0.toInt ∧ x0.toInt ≤ 57)) := by
                obtain ⟨n1, n2, n3, n4, n5, n6⟩ := own_n
                rw [own_lt] at hc1 hc15 hc16 hc22 hc23 hc25
                omega
              exact leafN X0 hx (t := .boolean) hret (by simp) hlk (w := (1 : Int32)) rfl (hb hby d1_41) ⟨own_if1 hz27, e0, rfl⟩ (by decide) (by decide)
        · refine Go.step (fun _ k => XS.icmpYes X0.here hx rfl (pc0 := 21) (pc' := 36) rfl (hb hby d1_21) rfl (flt hc22).2.2.2 (by decide) (by decide) k) ?_
          show Go _ _ _ _ (s₁.setTop (mkF m 36 #[.val (.int x0)] []))
          refine Go.step (fun _ k => XS.iconst X0.here hx rfl (hb hby d1_36) k) ?_
          show Go _ _ _ _ (s₁.setTop (mkF m 37 #[.val (.int x0)] [(.int (1 : Int32))]))
          refine Go.step (fun _ k => XS.goto X0.here hx rfl (pc0 := 37) (pc' := 41) rfl (hb hby d1_37) (by decide) (by decide) k) ?_
          show Go _ _ _ _ (s₁.setTop (mkF m 41 #[.val (.int x0)] [(.int (1 : Int32))]))
          have hz28 : ((65 ≤ x0.toInt ∧ x0.toInt ≤ 90) ∨ (97 ≤ x0.toInt ∧ x0.toInt ≤ 122) ∨ (48 ≤ x0.toInt ∧ x0.toInt ≤ 57)) := by
            obtain ⟨n1, n2, n3, n4, n5, n6⟩ := own_n
            rw [own_lt] at hc1 hc15 hc16 hc22
            omega
          exact leafN X0 hx (t := .boolean) hret (by simp) hlk (w := (1 : Int32)) rfl (hb hby d1_41) ⟨own_if1 hz28, e0, rfl⟩ (by decide) (by decide)
    · refine Go.step (fun _ k => XS.icmpYes X0.here hx rfl (pc0 := 9) (pc' := 36) rfl (hb hby d1_9) rfl (flt hc15).2.2.2 (by decide) (by decide) k) ?_
      show Go _ _ _ _ (s₁.setTop (mkF m 36 #[.val (.int x0)] []))
      refine Go.step (fun _ k => XS.iconst X0.here hx rfl (hb hby d1_36) k) ?_
      show Go _ _ _ _ (s₁.setTop (mkF m 37 #[.val (.int x0)] [(.int (1 : Int32))]))
      refine Go.step (fun _ k => XS.goto X0.here hx rfl (pc0 := 37) (pc' := 41) rfl (hb hby d1_37) (by decide) (by decide) k) ?_
      show Go _ _ _ _ (s₁.setTop (mkF m 41 #[.val (.int x0)] [(.int (1 : Int32))]))
      have hz29 : ((65 ≤ x0.toInt ∧ x0.toInt ≤ 90) ∨ (97 ≤ x0.toInt ∧ x0.toInt ≤ 122) ∨ (48 ≤ x0.toInt ∧ x0.toInt ≤ 57)) := by
        obtain ⟨n1, n2, n3, n4, n5, n6⟩ := own_n
        rw [own_lt] at hc1 hc15
        omega
      exact leafN X0 hx (t := .boolean) hret (by simp) hlk (w := (1 : Int32)) rfl (hb hby d1_41) ⟨own_if1 hz29, e0, rfl⟩ (by decide) (by decide)
set_option maxRecDepth 65536 in
set_option maxHeartbeats 40000000 in
theorem rm2 (l : Launch) (Z : State) (a0 : Array Value) (hw : ∀ d ∈ tables_1, d.before a0 Z = true) (ws : List Jvm.Cond) (x0 : Int32) (h0 : Heap) : Con l Z (⟨"tesserae/link/LinkBoardIsTilePinLaw", "reference", "(I)Z"⟩ : MethodName) method_3_code 6 (some .boolean) ws ({ frames := 0, cells := 0, slots := 0, locals := 0 } : Room) #[(.int x0)] h0 (fun v h L => v = some (.int (own_tile x0)) ∧ h = h0 ∧ L = []) := by
  refine Con.of pn2 fun p e s m below meth c s₁ hZ hx hby hml hown hret hlk hnm X0 e0 => ?_
  rw [ef2]
  show Go _ _ _ _ (s₁.setTop (mkF m 0 #[.val (.int x0), .unset, .unset, .unset, .unset, .unset] []))
  refine Go.step (fun _ k => XS.iloadN X0.here hx rfl (hb hby d2_0) rfl k) ?_
  show Go _ _ _ _ (s₁.setTop (mkF m 1 #[.val (.int x0), .unset, .unset, .unset, .unset, .unset] [(.int x0)]))
  refine Go.step (fun _ k => XS.i2l X0.here hx rfl (hb hby d2_1) rfl k) ?_
  show Go _ _ _ _ (s₁.setTop (mkF m 2 #[.val (.int x0), .unset, .unset, .unset, .unset, .unset] [(.long (x0.toInt64))]))
  refine Go.step (X0.ldc2Long hx hown (mvT hZ (hw _ (List.mem_of_getElem? (i := 9) rfl))) (g := (mkF m 2 #[.val (.int x0), .unset, .unset, .unset, .unset, .unset] [(.long (x0.toInt64))])) rfl (hb hby d2_2)) ?_
  show Go _ _ _ _ (s₁.setTop (mkF m 5 #[.val (.int x0), .unset, .unset, .unset, .unset, .unset] [(.long (48 : Int64)), (.long (x0.toInt64))]))
  refine Go.step (fun _ k => XS.lsub X0.here hx rfl (hb hby d2_5) rfl k) ?_
  show Go _ _ _ _ (s₁.setTop (mkF m 6 #[.val (.int x0), .unset, .unset, .unset, .unset, .unset] [(.long ((x0.toInt64) - (48 : Int64)))]))
  refine Go.step (fun _ k => XS.lstoreN X0.here hx rfl (hb hby d2_6) rfl (l' := #[.val (.int x0), .val (.long ((x0.toInt64) - (48 : Int64))), .second, .unset, .unset, .unset]) rfl k) ?_
  show Go _ _ _ _ (s₁.setTop (mkF m 7 #[.val (.int x0), .val (.long ((x0.toInt64) - (48 : Int64))), .second, .unset, .unset, .unset] []))
  refine Go.step (fun _ k => XS.lloadN X0.here hx rfl (hb hby d2_7) rfl k) ?_
  show Go _ _ _ _ (s₁.setTop (mkF m 8 #[.val (.int x0), .val (.long ((x0.toInt64) - (48 : Int64))), .second, .unset, .unset, .unset] [(.long ((x0.toInt64) - (48 : Int64)))]))
  refine Go.step (fun _ k => XS.lconst X0.here hx rfl (hb hby d2_8) k) ?_
  show Go _ _ _ _ (s₁.setTop (mkF m 9 #[.val (.int x0), .val (.long ((x0.toInt64) - (48 : Int64))), .second, .unset, .unset, .unset] [(.long (0 : Int64)), (.long ((x0.toInt64) - (48 : Int64)))]))
  refine Go.step (fun _ k => XS.lcmp X0.here hx rfl (hb hby d2_9) rfl k) ?_
  show Go _ _ _ _ (s₁.setTop (mkF m 10 #[.val (.int x0), .val (.long ((x0.toInt64) - (48 : Int64))), .second, .unset, .unset, .unset] [(.int (lcmpW ((x0.toInt64) - (48 : Int64)) (0 : Int64)))]))
  by_cases hc1 : ((x0.toInt64) - (48 : Int64)) < (0 : Int64)
  · refine Go.step (fun _ k => XS.ifYes X0.here hx rfl (pc0 := 10) (pc' := 25) rfl (hb hby d2_10) rfl ((if0 _ _).trans (tlt ((lw_lt _ _).mpr hc1)).1) (by decide) (by decide) k) ?_
    show Go _ _ _ _ (s₁.setTop (mkF m 25 #[.val (.int x0), .val (.long ((x0.toInt64) - (48 : Int64))), .second, .unset, .unset, .unset] []))
    refine Go.step (fun _ k => XS.iconst X0.here hx rfl (hb hby d2_25) k) ?_
    show Go _ _ _ _ (s₁.setTop (mkF m 26 #[.val (.int x0), .val (.long ((x0.toInt64) - (48 : Int64))), .second, .unset, .unset, .unset] [(.int (0 : Int32))]))
    refine Go.step (fun _ k => XS.istoreN X0.here hx rfl (hb hby d2_26) rfl (l' := #[.val (.int x0), .val (.long ((x0.toInt64) - (48 : Int64))), .second, .val (.int (0 : Int32)), .unset, .unset]) rfl k) ?_
    show Go _ _ _ _ (s₁.setTop (mkF m 27 #[.val (.int x0), .val (.long ((x0.toInt64) - (48 : Int64))), .second, .val (.int (0 : Int32)), .unset, .unset] []))
    refine Go.step (fun _ k => XS.iloadN X0.here hx rfl (hb hby d2_27) rfl k) ?_
    show Go _ _ _ _ (s₁.setTop (mkF m 28 #[.val (.int x0), .val (.long ((x0.toInt64) - (48 : Int64))), .second, .val (.int (0 : Int32)), .unset, .unset] [(.int x0)]))
    refine Go.step (fun _ k => XS.bipush X0.here hx rfl (hb hby d2_28) k) ?_
    show Go _ _ _ _ (s₁.setTop (mkF m 30 #[.val (.int x0), .val (.long ((x0.toInt64) - (48 : Int64))), .second, .val (.int (0 : Int32)), .unset, .unset] [(.int (32 : Int32)), (.int x0)]))
    refine Go.step (fun _ k => XS.ior X0.here hx rfl (hb hby d2_30) rfl k) ?_
    show Go _ _ _ _ (s₁.setTop (mkF m 31 #[.val (.int x0), .val (.long ((x0.toInt64) - (48 : Int64))), .second, .val (.int (0 : Int32)), .unset, .unset] [(.int (x0 ||| (32 : Int32)))]))
    refine Go.step (fun _ k => XS.istore X0.here hx rfl (hb hby d2_31) rfl (l' := #[.val (.int x0), .val (.long ((x0.toInt64) - (48 : Int64))), .second, .val (.int (0 : Int32)), .val (.int (x0 ||| (32 : Int32))), .unset]) rfl k) ?_
    show Go _ _ _ _ (s₁.setTop (mkF m 33 #[.val (.int x0), .val (.long ((x0.toInt64) - (48 : Int64))), .second, .val (.int (0 : Int32)), .val (.int (x0 ||| (32 : Int32))), .unset] []))
    refine Go.step (fun _ k => XS.iload X0.here hx rfl (hb hby d2_33) rfl k) ?_
    show Go _ _ _ _ (s₁.setTop (mkF m 35 #[.val (.int x0), .val (.long ((x0.toInt64) - (48 : Int64))), .second, .val (.int (0 : Int32)), .val (.int (x0 ||| (32 : Int32))), .unset] [(.int (x0 ||| (32 : Int32)))]))
    refine Go.step (fun _ k => XS.bipush X0.here hx rfl (hb hby d2_35) k) ?_
    show Go _ _ _ _ (s₁.setTop (mkF m 37 #[.val (.int x0), .val (.long ((x0.toInt64) - (48 : Int64))), .second, .val (.int (0 : Int32)), .val (.int (x0 ||| (32 : Int32))), .unset] [(.int (97 : Int32)), (.int (x0 ||| (32 : Int32)))]))
    by_cases hc2 : (x0 ||| (32 : Int32)) < (97 : Int32)
    · refine Go.step (fun _ k => XS.icmpYes X0.here hx rfl (pc0 := 37) (pc' := 51) rfl (hb hby d2_37) rfl (tlt hc2).1 (by decide) (by decide) k) ?_
      show Go _ _ _ _ (s₁.setTop (mkF m 51 #[.val (.int x0), .val (.long ((x0.toInt64) - (48 : Int64))), .second, .val (.int (0 : Int32)), .val (.int (x0 ||| (32 : Int32))), .unset] []))
      refine Go.step (fun _ k => XS.iconst X0.here hx rfl (hb hby d2_51) k) ?_
      show Go _ _ _ _ (s₁.setTop (mkF m 52 #[.val (.int x0), .val (.long ((x0.toInt64) - (48 : Int64))), .second, .val (.int (0 : Int32)), .val (.int (x0 ||| (32 : Int32))), .unset] [(.int (0 : Int32))]))
      refine Go.step (fun _ k => XS.istore X0.here hx rfl (hb hby d2_52) rfl (l' := #[.val (.int x0), .val (.long ((x0.toInt64) - (48 : Int64))), .second, .val (.int (0 : Int32)), .val (.int (x0 ||| (32 : Int32))), .val (.int (0 : Int32))]) rfl k) ?_
      show Go _ _ _ _ (s₁.setTop (mkF m 54 #[.val (.int x0), .val (.long ((x0.toInt64) - (48 : Int64))), .second, .val (.int (0 : Int32)), .val (.int (x0 ||| (32 : Int32))), .val (.int (0 : Int32))] []))
      refine Go.step (fun _ k => XS.iloadN X0.here hx rfl (hb hby d2_54) rfl k) ?_
      show Go _ _ _ _ (s₁.setTop (mkF m 55 #[.val (.int x0), .val (.long ((x0.toInt64) - (48 : Int64))), .second, .val (.int (0 : Int32)), .val (.int (x0 ||| (32 : Int32))), .val (.int (0 : Int32))] [(.int (0 : Int32))]))
      refine Go.step (fun _ k => XS.ifNo X0.here hx rfl (hb hby d2_55) rfl ((if0 _ _).trans (teq (by decide : ((0 : Int32) = (0 : Int32)))).2) k) ?_
      show Go _ _ _ _ (s₁.setTop (mkF m 58 #[.val (.int x0), .val (.long ((x0.toInt64) - (48 : Int64))), .second, .val (.int (0 : Int32)), .val (.int (x0 ||| (32 : Int32))), .val (.int (0 : Int32))] []))
      refine Go.step (fun _ k => XS.iload X0.here hx rfl (hb hby d2_58) rfl k) ?_
      show Go _ _ _ _ (s₁.setTop (mkF m 60 #[.val (.int x0), .val (.long ((x0.toInt64) - (48 : Int64))), .second, .val (.int (0 : Int32)), .val (.int (x0 ||| (32 : Int32))), .val (.int (0 : Int32))] [(.int (0 : Int32))]))
      refine Go.step (fun _ k => XS.ifYes X0.here hx rfl (pc0 := 60) (pc' := 67) rfl (hb hby d2_60) rfl ((if0 _ _).trans (teq (by decide : ((0 : Int32) = (0 : Int32)))).1) (by decide) (by decide) k) ?_
      show Go _ _ _ _ (s₁.setTop (mkF m 67 #[.val (.int x0), .val (.long ((x0.toInt64) - (48 : Int64))), .second, .val (.int (0 : Int32)), .val (.int (x0 ||| (32 : Int32))), .val (.int (0 : Int32))] []))
      refine Go.step (fun _ k => XS.iconst X0.here hx rfl (hb hby d2_67) k) ?_
      show Go _ _ _ _ (s₁.setTop (mkF m 68 #[.val (.int x0), .val (.long ((x0.toInt64) - (48 : Int64))), .second, .val (.int (0 : Int32)), .val (.int (x0 ||| (32 : Int32))), .val (.int (0 : Int32))] [(.int (0 : Int32))]))
      have hz3 : ¬ ((65 ≤ x0.toInt ∧ x0.toInt ≤ 90) ∨ (97 ≤ x0.toInt ∧ x0.toInt ≤ 122) ∨ (48 ≤ x0.toInt ∧ x0.toInt ≤ 57)) := by
        obtain ⟨n1, n2, n3, n4, n5, n6⟩ := own_n
        have n7 := own_dig x0
        have n8 := own_or x0
        have n9 := own_l0
        have n10 := own_l10
        rw [Int64.lt_iff_toInt_lt] at hc1
        rw [own_lt] at hc2
        omega
      exact leafN X0 hx (t := .boolean) hret (by simp) hlk (w := (0 : Int32)) rfl (hb hby d2_68) ⟨own_if0 hz3, e0, rfl⟩ (by decide) (by decide)
    · refine Go.step (fun _ k => XS.icmpNo X0.here hx rfl (hb hby d2_37) rfl (flt hc2).1 k) ?_
      show Go _ _ _ _ (s₁.setTop (mkF m 40 #[.val (.int x0), .val (.long ((x0.toInt64) - (48 : Int64))), .second, .val (.int (0 : Int32)), .val (.int (x0 ||| (32 : Int32))), .unset] []))
      refine Go.step (fun _ k => XS.iload X0.here hx rfl (hb hby d2_40) rfl k) ?_
      show Go _ _ _ _ (s₁.setTop (mkF m 42 #[.val (.int x0), .val (.long ((x0.toInt64) - (48 : Int64))), .second, .val (.int (0 : Int32)), .val (.int (x0 ||| (32 : Int32))), .unset] [(.int (x0 ||| (32 : Int32)))]))
      refine Go.step (fun _ k => XS.bipush X0.here hx rfl (hb hby d2_42) k) ?_
      show Go _ _ _ _ (s₁.setTop (mkF m 44 #[.val (.int x0), .val (.long ((x0.toInt64) - (48 : Int64))), .second, .val (.int (0 : Int32)), .val (.int (x0 ||| (32 : Int32))), .unset] [(.int (122 : Int32)), (.int (x0 ||| (32 : Int32)))]))
      by_cases hc4 : (122 : Int32) < (x0 ||| (32 : Int32))
      · refine Go.step (fun _ k => XS.icmpYes X0.here hx rfl (pc0 := 44) (pc' := 51) rfl (hb hby d2_44) rfl (tlt hc4).2.2.1 (by decide) (by decide) k) ?_
        show Go _ _ _ _ (s₁.setTop (mkF m 51 #[.val (.int x0), .val (.long ((x0.toInt64) - (48 : Int64))), .second, .val (.int (0 : Int32)), .val (.int (x0 ||| (32 : Int32))), .unset] []))
        refine Go.step (fun _ k => XS.iconst X0.here hx rfl (hb hby d2_51) k) ?_
        show Go _ _ _ _ (s₁.setTop (mkF m 52 #[.val (.int x0), .val (.long ((x0.toInt64) - (48 : Int64))), .second, .val (.int (0 : Int32)), .val (.int (x0 ||| (32 : Int32))), .unset] [(.int (0 : Int32))]))
        refine Go.step (fun _ k => XS.istore X0.here hx rfl (hb hby d2_52) rfl (l' := #[.val (.int x0), .val (.long ((x0.toInt64) - (48 : Int64))), .second, .val (.int (0 : Int32)), .val (.int (x0 ||| (32 : Int32))), .val (.int (0 : Int32))]) rfl k) ?_
        show Go _ _ _ _ (s₁.setTop (mkF m 54 #[.val (.int x0), .val (.long ((x0.toInt64) - (48 : Int64))), .second, .val (.int (0 : Int32)), .val (.int (x0 ||| (32 : Int32))), .val (.int (0 : Int32))] []))
        refine Go.step (fun _ k => XS.iloadN X0.here hx rfl (hb hby d2_54) rfl k) ?_
        show Go _ _ _ _ (s₁.setTop (mkF m 55 #[.val (.int x0), .val (.long ((x0.toInt64) - (48 : Int64))), .second, .val (.int (0 : Int32)), .val (.int (x0 ||| (32 : Int32))), .val (.int (0 : Int32))] [(.int (0 : Int32))]))
        refine Go.step (fun _ k => XS.ifNo X0.here hx rfl (hb hby d2_55) rfl ((if0 _ _).trans (teq (by decide : ((0 : Int32) = (0 : Int32)))).2) k) ?_
        show Go _ _ _ _ (s₁.setTop (mkF m 58 #[.val (.int x0), .val (.long ((x0.toInt64) - (48 : Int64))), .second, .val (.int (0 : Int32)), .val (.int (x0 ||| (32 : Int32))), .val (.int (0 : Int32))] []))
        refine Go.step (fun _ k => XS.iload X0.here hx rfl (hb hby d2_58) rfl k) ?_
        show Go _ _ _ _ (s₁.setTop (mkF m 60 #[.val (.int x0), .val (.long ((x0.toInt64) - (48 : Int64))), .second, .val (.int (0 : Int32)), .val (.int (x0 ||| (32 : Int32))), .val (.int (0 : Int32))] [(.int (0 : Int32))]))
        refine Go.step (fun _ k => XS.ifYes X0.here hx rfl (pc0 := 60) (pc' := 67) rfl (hb hby d2_60) rfl ((if0 _ _).trans (teq (by decide : ((0 : Int32) = (0 : Int32)))).1) (by decide) (by decide) k) ?_
        show Go _ _ _ _ (s₁.setTop (mkF m 67 #[.val (.int x0), .val (.long ((x0.toInt64) - (48 : Int64))), .second, .val (.int (0 : Int32)), .val (.int (x0 ||| (32 : Int32))), .val (.int (0 : Int32))] []))
        refine Go.step (fun _ k => XS.iconst X0.here hx rfl (hb hby d2_67) k) ?_
        show Go _ _ _ _ (s₁.setTop (mkF m 68 #[.val (.int x0), .val (.long ((x0.toInt64) - (48 : Int64))), .second, .val (.int (0 : Int32)), .val (.int (x0 ||| (32 : Int32))), .val (.int (0 : Int32))] [(.int (0 : Int32))]))
        have hz5 : ¬ ((65 ≤ x0.toInt ∧ x0.toInt ≤ 90) ∨ (97 ≤ x0.toInt ∧ x0.toInt ≤ 122) ∨ (48 ≤ x0.toInt ∧ x0.toInt ≤ 57)) := by
          obtain ⟨n1, n2, n3, n4, n5, n6⟩ := own_n
          have n7 := own_dig x0
          have n8 := own_or x0
          have n9 := own_l0
          have n10 := own_l10
          rw [Int64.lt_iff_toInt_lt] at hc1
          rw [own_lt] at hc2
          rw [own_lt] at hc4
          omega
        exact leafN X0 hx (t := .boolean) hret (by simp) hlk (w := (0 : Int32)) rfl (hb hby d2_68) ⟨own_if0 hz5, e0, rfl⟩ (by decide) (by decide)
      · refine Go.step (fun _ k => XS.icmpNo X0.here hx rfl (hb hby d2_44) rfl (flt hc4).2.2.1 k) ?_
        show Go _ _ _ _ (s₁.setTop (mkF m 47 #[.val (.int x0), .val (.long ((x0.toInt64) - (48 : Int64))), .second, .val (.int (0 : Int32)), .val (.int (x0 ||| (32 : Int32))), .unset] []))
        refine Go.step (fun _ k => XS.iconst X0.here hx rfl (hb hby d2_47) k) ?_
        show Go _ _ _ _ (s₁.setTop (mkF m 48 #[.val (.int x0), .val (.long ((x0.toInt64) - (48 : Int64))), .second, .val (.int (0 : Int32)), .val (.int (x0 ||| (32 : Int32))), .unset] [(.int (1 : Int32))]))
        refine Go.step (fun _ k => XS.goto X0.here hx rfl (pc0 := 48) (pc' := 52) rfl (hb hby d2_48) (by decide) (by decide) k) ?_
        show Go _ _ _ _ (s₁.setTop (mkF m 52 #[.val (.int x0), .val (.long ((x0.toInt64) - (48 : Int64))), .second, .val (.int (0 : Int32)), .val (.int (x0 ||| (32 : Int32))), .unset] [(.int (1 : Int32))]))
        refine Go.step (fun _ k => XS.istore X0.here hx rfl (hb hby d2_52) rfl (l' := #[.val (.int x0), .val (.long ((x0.toInt64) - (48 : Int64))), .second, .val (.int (0 : Int32)), .val (.int (x0 ||| (32 : Int32))), .val (.int (1 : Int32))]) rfl k) ?_
        show Go _ _ _ _ (s₁.setTop (mkF m 54 #[.val (.int x0), .val (.long ((x0.toInt64) - (48 : Int64))), .second, .val (.int (0 : Int32)), .val (.int (x0 ||| (32 : Int32))), .val (.int (1 : Int32))] []))
        refine Go.step (fun _ k => XS.iloadN X0.here hx rfl (hb hby d2_54) rfl k) ?_
        show Go _ _ _ _ (s₁.setTop (mkF m 55 #[.val (.int x0), .val (.long ((x0.toInt64) - (48 : Int64))), .second, .val (.int (0 : Int32)), .val (.int (x0 ||| (32 : Int32))), .val (.int (1 : Int32))] [(.int (0 : Int32))]))
        refine Go.step (fun _ k => XS.ifNo X0.here hx rfl (hb hby d2_55) rfl ((if0 _ _).trans (teq (by decide : ((0 : Int32) = (0 : Int32)))).2) k) ?_
        show Go _ _ _ _ (s₁.setTop (mkF m 58 #[.val (.int x0), .val (.long ((x0.toInt64) - (48 : Int64))), .second, .val (.int (0 : Int32)), .val (.int (x0 ||| (32 : Int32))), .val (.int (1 : Int32))] []))
        refine Go.step (fun _ k => XS.iload X0.here hx rfl (hb hby d2_58) rfl k) ?_
        show Go _ _ _ _ (s₁.setTop (mkF m 60 #[.val (.int x0), .val (.long ((x0.toInt64) - (48 : Int64))), .second, .val (.int (0 : Int32)), .val (.int (x0 ||| (32 : Int32))), .val (.int (1 : Int32))] [(.int (1 : Int32))]))
        refine Go.step (fun _ k => XS.ifNo X0.here hx rfl (hb hby d2_60) rfl ((if0 _ _).trans (feq (by decide : ¬ ((1 : Int32) = (0 : Int32)))).1) k) ?_
        show Go _ _ _ _ (s₁.setTop (mkF m 63 #[.val (.int x0), .val (.long ((x0.toInt64) - (48 : Int64))), .second, .val (.int (0 : Int32)), .val (.int (x0 ||| (32 : Int32))), .val (.int (1 : Int32))] []))
        refine Go.step (fun _ k => XS.iconst X0.here hx rfl (hb hby d2_63) k) ?_
        show Go _ _ _ _ (s₁.setTop (mkF m 64 #[.val (.int x0), .val (.long ((x0.toInt64) - (48 : Int64))), .second, .val (.int (0 : Int32)), .val (.int (x0 ||| (32 : Int32))), .val (.int (1 : Int32))] [(.int (1 : Int32))]))
        refine Go.step (fun _ k => XS.goto X0.here hx rfl (pc0 := 64) (pc' := 68) rfl (hb hby d2_64) (by decide) (by decide) k) ?_
        show Go _ _ _ _ (s₁.setTop (mkF m 68 #[.val (.int x0), .val (.long ((x0.toInt64) - (48 : Int64))), .second, .val (.int (0 : Int32)), .val (.int (x0 ||| (32 : Int32))), .val (.int (1 : Int32))] [(.int (1 : Int32))]))
        have hz6 : ((65 ≤ x0.toInt ∧ x0.toInt ≤ 90) ∨ (97 ≤ x0.toInt ∧ x0.toInt ≤ 122) ∨ (48 ≤ x0.toInt ∧ x0.toInt ≤ 57)) := by
          obtain ⟨n1, n2, n3, n4, n5, n6⟩ := own_n
          have n7 := own_dig x0
          have n8 := own_or x0
          have n9 := own_l0
          have n10 := own_l10
          rw [Int64.lt_iff_toInt_lt] at hc1
          rw [own_lt] at hc2
          rw [own_lt] at hc4
          omega
        exact leafN X0 hx (t := .boolean) hret (by simp) hlk (w := (1 : Int32)) rfl (hb hby d2_68) ⟨own_if1 hz6, e0, rfl⟩ (by decide) (by decide)
  · refine Go.step (fun _ k => XS.ifNo X0.here hx rfl (hb hby d2_10) rfl ((if0 _ _).trans (flt (fun q => hc1 ((lw_lt _ _).mp q))).1) k) ?_
    show Go _ _ _ _ (s₁.setTop (mkF m 13 #[.val (.int x0), .val (.long ((x0.toInt64) - (48 : Int64))), .second, .unset, .unset, .unset] []))
    refine Go.step (fun _ k => XS.lloadN X0.here hx rfl (hb hby d2_13) rfl k) ?_
    show Go _ _ _ _ (s₁.setTop (mkF m 14 #[.val (.int x0), .val (.long ((x0.toInt64) - (48 : Int64))), .second, .unset, .unset, .unset] [(.long ((x0.toInt64) - (48 : Int64)))]))
    refine Go.step (X0.ldc2Long hx hown (mvT hZ (hw _ (List.mem_of_getElem? (i := 10) rfl))) (g := (mkF m 14 #[.val (.int x0), .val (.long ((x0.toInt64) - (48 : Int64))), .second, .unset, .unset, .unset] [(.long ((x0.toInt64) - (48 : Int64)))])) rfl (hb hby d2_14)) ?_
    show Go _ _ _ _ (s₁.setTop (mkF m 17 #[.val (.int x0), .val (.long ((x0.toInt64) - (48 : Int64))), .second, .unset, .unset, .unset] [(.long (10 : Int64)), (.long ((x0.toInt64) - (48 : Int64)))]))
    refine Go.step (fun _ k => XS.lcmp X0.here hx rfl (hb hby d2_17) rfl k) ?_
    show Go _ _ _ _ (s₁.setTop (mkF m 18 #[.val (.int x0), .val (.long ((x0.toInt64) - (48 : Int64))), .second, .unset, .unset, .unset] [(.int (lcmpW ((x0.toInt64) - (48 : Int64)) (10 : Int64)))]))
    by_cases hc7 : ((x0.toInt64) - (48 : Int64)) < (10 : Int64)
    · refine Go.step (fun _ k => XS.ifNo X0.here hx rfl (hb hby d2_18) rfl ((if0 _ _).trans (tlt ((lw_lt _ _).mpr hc7)).2.1) k) ?_
      show Go _ _ _ _ (s₁.setTop (mkF m 21 #[.val (.int x0), .val (.long ((x0.toInt64) - (48 : Int64))), .second, .unset, .unset, .unset] []))
      refine Go.step (fun _ k => XS.iconst X0.here hx rfl (hb hby d2_21) k) ?_
      show Go _ _ _ _ (s₁.setTop (mkF m 22 #[.val (.int x0), .val (.long ((x0.toInt64) - (48 : Int64))), .second, .unset, .unset, .unset] [(.int (1 : Int32))]))
      refine Go.step (fun _ k => XS.goto X0.here hx rfl (pc0 := 22) (pc' := 26) rfl (hb hby d2_22) (by decide) (by decide) k) ?_
      show Go _ _ _ _ (s₁.setTop (mkF m 26 #[.val (.int x0), .val (.long ((x0.toInt64) - (48 : Int64))), .second, .unset, .unset, .unset] [(.int (1 : Int32))]))
      refine Go.step (fun _ k => XS.istoreN X0.here hx rfl (hb hby d2_26) rfl (l' := #[.val (.int x0), .val (.long ((x0.toInt64) - (48 : Int64))), .second, .val (.int (1 : Int32)), .unset, .unset]) rfl k) ?_
      show Go _ _ _ _ (s₁.setTop (mkF m 27 #[.val (.int x0), .val (.long ((x0.toInt64) - (48 : Int64))), .second, .val (.int (1 : Int32)), .unset, .unset] []))
      refine Go.step (fun _ k => XS.iloadN X0.here hx rfl (hb hby d2_27) rfl k) ?_
      show Go _ _ _ _ (s₁.setTop (mkF m 28 #[.val (.int x0), .val (.long ((x0.toInt64) - (48 : Int64))), .second, .val (.int (1 : Int32)), .unset, .unset] [(.int x0)]))
      refine Go.step (fun _ k => XS.bipush X0.here hx rfl (hb hby d2_28) k) ?_
      show Go _ _ _ _ (s₁.setTop (mkF m 30 #[.val (.int x0), .val (.long ((x0.toInt64) - (48 : Int64))), .second, .val (.int (1 : Int32)), .unset, .unset] [(.int (32 : Int32)), (.int x0)]))
      refine Go.step (fun _ k => XS.ior X0.here hx rfl (hb hby d2_30) rfl k) ?_
      show Go _ _ _ _ (s₁.setTop (mkF m 31 #[.val (.int x0), .val (.long ((x0.toInt64) - (48 : Int64))), .second, .val (.int (1 : Int32)), .unset, .unset] [(.int (x0 ||| (32 : Int32)))]))
      refine Go.step (fun _ k => XS.istore X0.here hx rfl (hb hby d2_31) rfl (l' := #[.val (.int x0), .val (.long ((x0.toInt64) - (48 : Int64))), .second, .val (.int (1 : Int32)), .val (.int (x0 ||| (32 : Int32))), .unset]) rfl k) ?_
      show Go _ _ _ _ (s₁.setTop (mkF m 33 #[.val (.int x0), .val (.long ((x0.toInt64) - (48 : Int64))), .second, .val (.int (1 : Int32)), .val (.int (x0 ||| (32 : Int32))), .unset] []))
      refine Go.step (fun _ k => XS.iload X0.here hx rfl (hb hby d2_33) rfl k) ?_
      show Go _ _ _ _ (s₁.setTop (mkF m 35 #[.val (.int x0), .val (.long ((x0.toInt64) - (48 : Int64))), .second, .val (.int (1 : Int32)), .val (.int (x0 ||| (32 : Int32))), .unset] [(.int (x0 ||| (32 : Int32)))]))
      refine Go.step (fun _ k => XS.bipush X0.here hx rfl (hb hby d2_35) k) ?_
      show Go _ _ _ _ (s₁.setTop (mkF m 37 #[.val (.int x0), .val (.long ((x0.toInt64) - (48 : Int64))), .second, .val (.int (1 : Int32)), .val (.int (x0 ||| (32 : Int32))), .unset] [(.int (97 : Int32)), (.int (x0 ||| (32 : Int32)))]))
      by_cases hc8 : (x0 ||| (32 : Int32)) < (97 : Int32)
      · refine Go.step (fun _ k => XS.icmpYes X0.here hx rfl (pc0 := 37) (pc' := 51) rfl (hb hby d2_37) rfl (tlt hc8).1 (by decide) (by decide) k) ?_
        show Go _ _ _ _ (s₁.setTop (mkF m 51 #[.val (.int x0), .val (.long ((x0.toInt64) - (48 : Int64))), .second, .val (.int (1 : Int32)), .val (.int (x0 ||| (32 : Int32))), .unset] []))
        refine Go.step (fun _ k => XS.iconst X0.here hx rfl (hb hby d2_51) k) ?_
        show Go _ _ _ _ (s₁.setTop (mkF m 52 #[.val (.int x0), .val (.long ((x0.toInt64) - (48 : Int64))), .second, .val (.int (1 : Int32)), .val (.int (x0 ||| (32 : Int32))), .unset] [(.int (0 : Int32))]))
        refine Go.step (fun _ k => XS.istore X0.here hx rfl (hb hby d2_52) rfl (l' := #[.val (.int x0), .val (.long ((x0.toInt64) - (48 : Int64))), .second, .val (.int (1 : Int32)), .val (.int (x0 ||| (32 : Int32))), .val (.int (0 : Int32))]) rfl k) ?_
        show Go _ _ _ _ (s₁.setTop (mkF m 54 #[.val (.int x0), .val (.long ((x0.toInt64) - (48 : Int64))), .second, .val (.int (1 : Int32)), .val (.int (x0 ||| (32 : Int32))), .val (.int (0 : Int32))] []))
        refine Go.step (fun _ k => XS.iloadN X0.here hx rfl (hb hby d2_54) rfl k) ?_
        show Go _ _ _ _ (s₁.setTop (mkF m 55 #[.val (.int x0), .val (.long ((x0.toInt64) - (48 : Int64))), .second, .val (.int (1 : Int32)), .val (.int (x0 ||| (32 : Int32))), .val (.int (0 : Int32))] [(.int (1 : Int32))]))
        refine Go.step (fun _ k => XS.ifYes X0.here hx rfl (pc0 := 55) (pc' := 63) rfl (hb hby d2_55) rfl ((if0 _ _).trans (feq (by decide : ¬ ((1 : Int32) = (0 : Int32)))).2) (by decide) (by decide) k) ?_
        show Go _ _ _ _ (s₁.setTop (mkF m 63 #[.val (.int x0), .val (.long ((x0.toInt64) - (48 : Int64))), .second, .val (.int (1 : Int32)), .val (.int (x0 ||| (32 : Int32))), .val (.int (0 : Int32))] []))
        refine Go.step (fun _ k => XS.iconst X0.here hx rfl (hb hby d2_63) k) ?_
        show Go _ _ _ _ (s₁.setTop (mkF m 64 #[.val (.int x0), .val (.long ((x0.toInt64) - (48 : Int64))), .second, .val (.int (1 : Int32)), .val (.int (x0 ||| (32 : Int32))), .val (.int (0 : Int32))] [(.int (1 : Int32))]))
        refine Go.step (fun _ k => XS.goto X0.here hx rfl (pc0 := 64) (pc' := 68) rfl (hb hby d2_64) (by decide) (by decide) k) ?_
        show Go _ _ _ _ (s₁.setTop (mkF m 68 #[.val (.int x0), .val (.long ((x0.toInt64) - (48 : Int64))), .second, .val (.int (1 : Int32)), .val (.int (x0 ||| (32 : Int32))), .val (.int (0 : Int32))] [(.int (1 : Int32))]))
        have hz9 : ((65 ≤ x0.toInt ∧ x0.toInt ≤ 90) ∨ (97 ≤ x0.toInt ∧ x0.toInt ≤ 122) ∨ (48 ≤ x0.toInt ∧ x0.toInt ≤ 57)) := by
          obtain ⟨n1, n2, n3, n4, n5, n6⟩ := own_n
          have n7 := own_dig x0
          have n8 := own_or x0
          have n9 := own_l0
          have n10 := own_l10
          rw [Int64.lt_iff_toInt_lt] at hc1
          rw [Int64.lt_iff_toInt_lt] at hc7
          rw [own_lt] at hc8
          omega
        exact leafN X0 hx (t := .boolean) hret (by simp) hlk (w := (1 : Int32)) rfl (hb hby d2_68) ⟨own_if1 hz9, e0, rfl⟩ (by decide) (by decide)
      · refine Go.step (fun _ k => XS.icmpNo X0.here hx rfl (hb hby d2_37) rfl (flt hc8).1 k) ?_
        show Go _ _ _ _ (s₁.setTop (mkF m 40 #[.val (.int x0), .val (.long ((x0.toInt64) - (48 : Int64))), .second, .val (.int (1 : Int32)), .val (.int (x0 ||| (32 : Int32))), .unset] []))
        refine Go.step (fun _ k => XS.iload X0.here hx rfl (hb hby d2_40) rfl k) ?_
        show Go _ _ _ _ (s₁.setTop (mkF m 42 #[.val (.int x0), .val (.long ((x0.toInt64) - (48 : Int64))), .second, .val (.int (1 : Int32)), .val (.int (x0 ||| (32 : Int32))), .unset] [(.int (x0 ||| (32 : Int32)))]))
        refine Go.step (fun _ k => XS.bipush X0.here hx rfl (hb hby d2_42) k) ?_
        show Go _ _ _ _ (s₁.setTop (mkF m 44 #[.val (.int x0), .val (.long ((x0.toInt64) - (48 : Int64))), .second, .val (.int (1 : Int32)), .val (.int (x0 ||| (32 : Int32))), .unset] [(.int (122 : Int32)), (.int (x0 ||| (32 : Int32)))]))
        by_cases hc10 : (122 : Int32) < (x0 ||| (32 : Int32))
        · refine Go.step (fun _ k => XS.icmpYes X0.here hx rfl (pc0 := 44) (pc' := 51) rfl (hb hby d2_44) rfl (tlt hc10).2.2.1 (by decide) (by decide) k) ?_
          show Go _ _ _ _ (s₁.setTop (mkF m 51 #[.val (.int x0), .val (.long ((x0.toInt64) - (48 : Int64))), .second, .val (.int (1 : Int32)), .val (.int (x0 ||| (32 : Int32))), .unset] []))
          refine Go.step (fun _ k => XS.iconst X0.here hx rfl (hb hby d2_51) k) ?_
          show Go _ _ _ _ (s₁.setTop (mkF m 52 #[.val (.int x0), .val (.long ((x0.toInt64) - (48 : Int64))), .second, .val (.int (1 : Int32)), .val (.int (x0 ||| (32 : Int32))), .unset] [(.int (0 : Int32))]))
          refine Go.step (fun _ k => XS.istore X0.here hx rfl (hb hby d2_52) rfl (l' := #[.val (.int x0), .val (.long ((x0.toInt64) - (48 : Int64))), .second, .val (.int (1 : Int32)), .val (.int (x0 ||| (32 : Int32))), .val (.int (0 : Int32))]) rfl k) ?_
          show Go _ _ _ _ (s₁.setTop (mkF m 54 #[.val (.int x0), .val (.long ((x0.toInt64) - (48 : Int64))), .second, .val (.int (1 : Int32)), .val (.int (x0 ||| (32 : Int32))), .val (.int (0 : Int32))] []))
          refine Go.step (fun _ k => XS.iloadN X0.here hx rfl (hb hby d2_54) rfl k) ?_
          show Go _ _ _ _ (s₁.setTop (mkF m 55 #[.val (.int x0), .val (.long ((x0.toInt64) - (48 : Int64))), .second, .val (.int (1 : Int32)), .val (.int (x0 ||| (32 : Int32))), .val (.int (0 : Int32))] [(.int (1 : Int32))]))
          refine Go.step (fun _ k => XS.ifYes X0.here hx rfl (pc0 := 55) (pc' := 63) rfl (hb hby d2_55) rfl ((if0 _ _).trans (feq (by decide : ¬ ((1 : Int32) = (0 : Int32)))).2) (by decide) (by decide) k) ?_
          show Go _ _ _ _ (s₁.setTop (mkF m 63 #[.val (.int x0), .val (.long ((x0.toInt64) - (48 : Int64))), .second, .val (.int (1 : Int32)), .val (.int (x0 ||| (32 : Int32))), .val (.int (0 : Int32))] []))
          refine Go.step (fun _ k => XS.iconst X0.here hx rfl (hb hby d2_63) k) ?_
          show Go _ _ _ _ (s₁.setTop (mkF m 64 #[.val (.int x0), .val (.long ((x0.toInt64) - (48 : Int64))), .second, .val (.int (1 : Int32)), .val (.int (x0 ||| (32 : Int32))), .val (.int (0 : Int32))] [(.int (1 : Int32))]))
          refine Go.step (fun _ k => XS.goto X0.here hx rfl (pc0 := 64) (pc' := 68) rfl (hb hby d2_64) (by decide) (by decide) k) ?_
          show Go _ _ _ _ (s₁.setTop (mkF m 68 #[.val (.int x0), .val (.long ((x0.toInt64) - (48 : Int64))), .second, .val (.int (1 : Int32)), .val (.int (x0 ||| (32 : Int32))), .val (.int (0 : Int32))] [(.int (1 : Int32))]))
          have hz11 : ((65 ≤ x0.toInt ∧ x0.toInt ≤ 90) ∨ (97 ≤ x0.toInt ∧ x0.toInt ≤ 122) ∨ (48 ≤ x0.toInt ∧ x0.toInt ≤ 57)) := by
            obtain ⟨n1, n2, n3, n4, n5, n6⟩ := own_n
            have n7 := own_dig x0
            have n8 := own_or x0
            have n9 := own_l0
            have n10 := own_l10
            rw [Int64.lt_iff_toInt_lt] at hc1
            rw [Int64.lt_iff_toInt_lt] at hc7
            rw [own_lt] at hc8
            rw [own_lt] at hc10
            omega
          exact leafN X0 hx (t := .boolean) hret (by simp) hlk (w := (1 : Int32)) rfl (hb hby d2_68) ⟨own_if1 hz11, e0, rfl⟩ (by decide) (by decide)
        · refine Go.step (fun _ k => XS.icmpNo X0.here hx rfl (hb hby d2_44) rfl (flt hc10).2.2.1 k) ?_
          show Go _ _ _ _ (s₁.setTop (mkF m 47 #[.val (.int x0), .val (.long ((x0.toInt64) - (48 : Int64))), .second, .val (.int (1 : Int32)), .val (.int (x0 ||| (32 : Int32))), .unset] []))
          refine Go.step (fun _ k => XS.iconst X0.here hx rfl (hb hby d2_47) k) ?_
          show Go _ _ _ _ (s₁.setTop (mkF m 48 #[.val (.int x0), .val (.long ((x0.toInt64) - (48 : Int64))), .second, .val (.int (1 : Int32)), .val (.int (x0 ||| (32 : Int32))), .unset] [(.int (1 : Int32))]))
          refine Go.step (fun _ k => XS.goto X0.here hx rfl (pc0 := 48) (pc' := 52) rfl (hb hby d2_48) (by decide) (by decide) k) ?_
          show Go _ _ _ _ (s₁.setTop (mkF m 52 #[.val (.int x0), .val (.long ((x0.toInt64) - (48 : Int64))), .second, .val (.int (1 : Int32)), .val (.int (x0 ||| (32 : Int32))), .unset] [(.int (1 : Int32))]))
          refine Go.step (fun _ k => XS.istore X0.here hx rfl (hb hby d2_52) rfl (l' := #[.val (.int x0), .val (.long ((x0.toInt64) - (48 : Int64))), .second, .val (.int (1 : Int32)), .val (.int (x0 ||| (32 : Int32))), .val (.int (1 : Int32))]) rfl k) ?_
          show Go _ _ _ _ (s₁.setTop (mkF m 54 #[.val (.int x0), .val (.long ((x0.toInt64) - (48 : Int64))), .second, .val (.int (1 : Int32)), .val (.int (x0 ||| (32 : Int32))), .val (.int (1 : Int32))] []))
          refine Go.step (fun _ k => XS.iloadN X0.here hx rfl (hb hby d2_54) rfl k) ?_
          show Go _ _ _ _ (s₁.setTop (mkF m 55 #[.val (.int x0), .val (.long ((x0.toInt64) - (48 : Int64))), .second, .val (.int (1 : Int32)), .val (.int (x0 ||| (32 : Int32))), .val (.int (1 : Int32))] [(.int (1 : Int32))]))
          refine Go.step (fun _ k => XS.ifYes X0.here hx rfl (pc0 := 55) (pc' := 63) rfl (hb hby d2_55) rfl ((if0 _ _).trans (feq (by decide : ¬ ((1 : Int32) = (0 : Int32)))).2) (by decide) (by decide) k) ?_
          show Go _ _ _ _ (s₁.setTop (mkF m 63 #[.val (.int x0), .val (.long ((x0.toInt64) - (48 : Int64))), .second, .val (.int (1 : Int32)), .val (.int (x0 ||| (32 : Int32))), .val (.int (1 : Int32))] []))
          refine Go.step (fun _ k => XS.iconst X0.here hx rfl (hb hby d2_63) k) ?_
          show Go _ _ _ _ (s₁.setTop (mkF m 64 #[.val (.int x0), .val (.long ((x0.toInt64) - (48 : Int64))), .second, .val (.int (1 : Int32)), .val (.int (x0 ||| (32 : Int32))), .val (.int (1 : Int32))] [(.int (1 : Int32))]))
          refine Go.step (fun _ k => XS.goto X0.here hx rfl (pc0 := 64) (pc' := 68) rfl (hb hby d2_64) (by decide) (by decide) k) ?_
          show Go _ _ _ _ (s₁.setTop (mkF m 68 #[.val (.int x0), .val (.long ((x0.toInt64) - (48 : Int64))), .second, .val (.int (1 : Int32)), .val (.int (x0 ||| (32 : Int32))), .val (.int (1 : Int32))] [(.int (1 : Int32))]))
          have hz12 : ((65 ≤ x0.toInt ∧ x0.toInt ≤ 90) ∨ (97 ≤ x0.toInt ∧ x0.toInt ≤ 122) ∨ (48 ≤ x0.toInt ∧ x0.toInt ≤ 57)) := by
            obtain ⟨n1, n2, n3, n4, n5, n6⟩ := own_n
            have n7 := own_dig x0
            have n8 := own_or x0
            have n9 := own_l0
            have n10 := own_l10
            rw [Int64.lt_iff_toInt_lt] at hc1
            rw [Int64.lt_iff_toInt_lt] at hc7
            rw [own_lt] at hc8
            rw [own_lt] at hc10
            omega
          exact leafN X0 hx (t := .boolean) hret (by simp) hlk (w := (1 : Int32)) rfl (hb hby d2_68) ⟨own_if1 hz12, e0, rfl⟩ (by decide) (by decide)
    · refine Go.step (fun _ k => XS.ifYes X0.here hx rfl (pc0 := 18) (pc' := 25) rfl (hb hby d2_18) rfl ((if0 _ _).trans (flt (fun q => hc7 ((lw_lt _ _).mp q))).2.1) (by decide) (by decide) k) ?_
      show Go _ _ _ _ (s₁.setTop (mkF m 25 #[.val (.int x0), .val (.long ((x0.toInt64) - (48 : Int64))), .second, .unset, .unset, .unset] []))
      refine Go.step (fun _ k => XS.iconst X0.here hx rfl (hb hby d2_25) k) ?_
      show Go _ _ _ _ (s₁.setTop (mkF m 26 #[.val (.int x0), .val (.long ((x0.toInt64) - (48 : Int64))), .second, .unset, .unset, .unset] [(.int (0 : Int32))]))
      refine Go.step (fun _ k => XS.istoreN X0.here hx rfl (hb hby d2_26) rfl (l' := #[.val (.int x0), .val (.long ((x0.toInt64) - (48 : Int64))), .second, .val (.int (0 : Int32)), .unset, .unset]) rfl k) ?_
      show Go _ _ _ _ (s₁.setTop (mkF m 27 #[.val (.int x0), .val (.long ((x0.toInt64) - (48 : Int64))), .second, .val (.int (0 : Int32)), .unset, .unset] []))
      refine Go.step (fun _ k => XS.iloadN X0.here hx rfl (hb hby d2_27) rfl k) ?_
      show Go _ _ _ _ (s₁.setTop (mkF m 28 #[.val (.int x0), .val (.long ((x0.toInt64) - (48 : Int64))), .second, .val (.int (0 : Int32)), .unset, .unset] [(.int x0)]))
      refine Go.step (fun _ k => XS.bipush X0.here hx rfl (hb hby d2_28) k) ?_
      show Go _ _ _ _ (s₁.setTop (mkF m 30 #[.val (.int x0), .val (.long ((x0.toInt64) - (48 : Int64))), .second, .val (.int (0 : Int32)), .unset, .unset] [(.int (32 : Int32)), (.int x0)]))
      refine Go.step (fun _ k => XS.ior X0.here hx rfl (hb hby d2_30) rfl k) ?_
      show Go _ _ _ _ (s₁.setTop (mkF m 31 #[.val (.int x0), .val (.long ((x0.toInt64) - (48 : Int64))), .second, .val (.int (0 : Int32)), .unset, .unset] [(.int (x0 ||| (32 : Int32)))]))
      refine Go.step (fun _ k => XS.istore X0.here hx rfl (hb hby d2_31) rfl (l' := #[.val (.int x0), .val (.long ((x0.toInt64) - (48 : Int64))), .second, .val (.int (0 : Int32)), .val (.int (x0 ||| (32 : Int32))), .unset]) rfl k) ?_
      show Go _ _ _ _ (s₁.setTop (mkF m 33 #[.val (.int x0), .val (.long ((x0.toInt64) - (48 : Int64))), .second, .val (.int (0 : Int32)), .val (.int (x0 ||| (32 : Int32))), .unset] []))
      refine Go.step (fun _ k => XS.iload X0.here hx rfl (hb hby d2_33) rfl k) ?_
      show Go _ _ _ _ (s₁.setTop (mkF m 35 #[.val (.int x0), .val (.long ((x0.toInt64) - (48 : Int64))), .second, .val (.int (0 : Int32)), .val (.int (x0 ||| (32 : Int32))), .unset] [(.int (x0 ||| (32 : Int32)))]))
      refine Go.step (fun _ k => XS.bipush X0.here hx rfl (hb hby d2_35) k) ?_
      show Go _ _ _ _ (s₁.setTop (mkF m 37 #[.val (.int x0), .val (.long ((x0.toInt64) - (48 : Int64))), .second, .val (.int (0 : Int32)), .val (.int (x0 ||| (32 : Int32))), .unset] [(.int (97 : Int32)), (.int (x0 ||| (32 : Int32)))]))
      by_cases hc13 : (x0 ||| (32 : Int32)) < (97 : Int32)
      · refine Go.step (fun _ k => XS.icmpYes X0.here hx rfl (pc0 := 37) (pc' := 51) rfl (hb hby d2_37) rfl (tlt hc13).1 (by decide) (by decide) k) ?_
        show Go _ _ _ _ (s₁.setTop (mkF m 51 #[.val (.int x0), .val (.long ((x0.toInt64) - (48 : Int64))), .second, .val (.int (0 : Int32)), .val (.int (x0 ||| (32 : Int32))), .unset] []))
        refine Go.step (fun _ k => XS.iconst X0.here hx rfl (hb hby d2_51) k) ?_
        show Go _ _ _ _ (s₁.setTop (mkF m 52 #[.val (.int x0), .val (.long ((x0.toInt64) - (48 : Int64))), .second, .val (.int (0 : Int32)), .val (.int (x0 ||| (32 : Int32))), .unset] [(.int (0 : Int32))]))
        refine Go.step (fun _ k => XS.istore X0.here hx rfl (hb hby d2_52) rfl (l' := #[.val (.int x0), .val (.long ((x0.toInt64) - (48 : Int64))), .second, .val (.int (0 : Int32)), .val (.int (x0 ||| (32 : Int32))), .val (.int (0 : Int32))]) rfl k) ?_
        show Go _ _ _ _ (s₁.setTop (mkF m 54 #[.val (.int x0), .val (.long ((x0.toInt64) - (48 : Int64))), .second, .val (.int (0 : Int32)), .val (.int (x0 ||| (32 : Int32))), .val (.int (0 : Int32))] []))
        refine Go.step (fun _ k => XS.iloadN X0.here hx rfl (hb hby d2_54) rfl k) ?_
        show Go _ _ _ _ (s₁.setTop (mkF m 55 #[.val (.int x0), .val (.long ((x0.toInt64) - (48 : Int64))), .second, .val (.int (0 : Int32)), .val (.int (x0 ||| (32 : Int32))), .val (.int (0 : Int32))] [(.int (0 : Int32))]))
        refine Go.step (fun _ k => XS.ifNo X0.here hx rfl (hb hby d2_55) rfl ((if0 _ _).trans (teq (by decide : ((0 : Int32) = (0 : Int32)))).2) k) ?_
        show Go _ _ _ _ (s₁.setTop (mkF m 58 #[.val (.int x0), .val (.long ((x0.toInt64) - (48 : Int64))), .second, .val (.int (0 : Int32)), .val (.int (x0 ||| (32 : Int32))), .val (.int (0 : Int32))] []))
        refine Go.step (fun _ k => XS.iload X0.here hx rfl (hb hby d2_58) rfl k) ?_
        show Go _ _ _ _ (s₁.setTop (mkF m 60 #[.val (.int x0), .val (.long ((x0.toInt64) - (48 : Int64))), .second, .val (.int (0 : Int32)), .val (.int (x0 ||| (32 : Int32))), .val (.int (0 : Int32))] [(.int (0 : Int32))]))
        refine Go.step (fun _ k => XS.ifYes X0.here hx rfl (pc0 := 60) (pc' := 67) rfl (hb hby d2_60) rfl ((if0 _ _).trans (teq (by decide : ((0 : Int32) = (0 : Int32)))).1) (by decide) (by decide) k) ?_
        show Go _ _ _ _ (s₁.setTop (mkF m 67 #[.val (.int x0), .val (.long ((x0.toInt64) - (48 : Int64))), .second, .val (.int (0 : Int32)), .val (.int (x0 ||| (32 : Int32))), .val (.int (0 : Int32))] []))
        refine Go.step (fun _ k => XS.iconst X0.here hx rfl (hb hby d2_67) k) ?_
        show Go _ _ _ _ (s₁.setTop (mkF m 68 #[.val (.int x0), .val (.long ((x0.toInt64) - (48 : Int64))), .second, .val (.int (0 : Int32)), .val (.int (x0 ||| (32 : Int32))), .val (.int (0 : Int32))] [(.int (0 : Int32))]))
        have hz14 : ¬ ((65 ≤ x0.toInt ∧ x0.toInt ≤ 90) ∨ (97 ≤ x0.toInt ∧ x0.toInt ≤ 122) ∨ (48 ≤ x0.toInt ∧ x0.toInt ≤ 57)) := by
          obtain ⟨n1, n2, n3, n4, n5, n6⟩ := own_n
          have n7 := own_dig x0
          have n8 := own_or x0
          have n9 := own_l0
          have n10 := own_l10
          rw [Int64.lt_iff_toInt_lt] at hc1
          rw [Int64.lt_iff_toInt_lt] at hc7
          rw [own_lt] at hc13
          omega
        exact leafN X0 hx (t := .boolean) hret (by simp) hlk (w := (0 : Int32)) rfl (hb hby d2_68) ⟨own_if0 hz14, e0, rfl⟩ (by decide) (by decide)
      · refine Go.step (fun _ k => XS.icmpNo X0.here hx rfl (hb hby d2_37) rfl (flt hc13).1 k) ?_
        show Go _ _ _ _ (s₁.setTop (mkF m 40 #[.val (.int x0), .val (.long ((x0.toInt64) - (48 : Int64))), .second, .val (.int (0 : Int32)), .val (.int (x0 ||| (32 : Int32))), .unset] []))
        refine Go.step (fun _ k => XS.iload X0.here hx rfl (hb hby d2_40) rfl k) ?_
        show Go _ _ _ _ (s₁.setTop (mkF m 42 #[.val (.int x0), .val (.long ((x0.toInt64) - (48 : Int64))), .second, .val (.int (0 : Int32)), .val (.int (x0 ||| (32 : Int32))), .unset] [(.int (x0 ||| (32 : Int32)))]))
        refine Go.step (fun _ k => XS.bipush X0.here hx rfl (hb hby d2_42) k) ?_
        show Go _ _ _ _ (s₁.setTop (mkF m 44 #[.val (.int x0), .val (.long ((x0.toInt64) - (48 : Int64))), .second, .val (.int (0 : Int32)), .val (.int (x0 ||| (32 : Int32))), .unset] [(.int (122 : Int32)), (.int (x0 ||| (32 : Int32)))]))
        by_cases hc15 : (122 : Int32) < (x0 ||| (32 : Int32))
        · refine Go.step (fun _ k => XS.icmpYes X0.here hx rfl (pc0 := 44) (pc' := 51) rfl (hb hby d2_44) rfl (tlt hc15).2.2.1 (by decide) (by decide) k) ?_
          show Go _ _ _ _ (s₁.setTop (mkF m 51 #[.val (.int x0), .val (.long ((x0.toInt64) - (48 : Int64))), .second, .val (.int (0 : Int32)), .val (.int (x0 ||| (32 : Int32))), .unset] []))
          refine Go.step (fun _ k => XS.iconst X0.here hx rfl (hb hby d2_51) k) ?_
          show Go _ _ _ _ (s₁.setTop (mkF m 52 #[.val (.int x0), .val (.long ((x0.toInt64) - (48 : Int64))), .second, .val (.int (0 : Int32)), .val (.int (x0 ||| (32 : Int32))), .unset] [(.int (0 : Int32))]))
          refine Go.step (fun _ k => XS.istore X0.here hx rfl (hb hby d2_52) rfl (l' := #[.val (.int x0), .val (.long ((x0.toInt64) - (48 : Int64))), .second, .val (.int (0 : Int32)), .val (.int (x0 ||| (32 : Int32))), .val (.int (0 : Int32))]) rfl k) ?_
          show Go _ _ _ _ (s₁.setTop (mkF m 54 #[.val (.int x0), .val (.long ((x0.toInt64) - (48 : Int64))), .second, .val (.int (0 : Int32)), .val (.int (x0 ||| (32 : Int32))), .val (.int (0 : Int32))] []))
          refine Go.step (fun _ k => XS.iloadN X0.here hx rfl (hb hby d2_54) rfl k) ?_
          show Go _ _ _ _ (s₁.setTop (mkF m 55 #[.val (.int x0), .val (.long ((x0.toInt64) - (48 : Int64))), .second, .val (.int (0 : Int32)), .val (.int (x0 ||| (32 : Int32))), .val (.int (0 : Int32))] [(.int (0 : Int32))]))
          refine Go.step (fun _ k => XS.ifNo X0.here hx rfl (hb hby d2_55) rfl ((if0 _ _).trans (teq (by decide : ((0 : Int32) = (0 : Int32)))).2) k) ?_
          show Go _ _ _ _ (s₁.setTop (mkF m 58 #[.val (.int x0), .val (.long ((x0.toInt64) - (48 : Int64))), .second, .val (.int (0 : Int32)), .val (.int (x0 ||| (32 : Int32))), .val (.int (0 : Int32))] []))
          refine Go.step (fun _ k => XS.iload X0.here hx rfl (hb hby d2_58) rfl k) ?_
          show Go _ _ _ _ (s₁.setTop (mkF m 60 #[.val (.int x0), .val (.long ((x0.toInt64) - (48 : Int64))), .second, .val (.int (0 : Int32)), .val (.int (x0 ||| (32 : Int32))), .val (.int (0 : Int32))] [(.int (0 : Int32))]))
          refine Go.step (fun _ k => XS.ifYes X0.here hx rfl (pc0 := 60) (pc' := 67) rfl (hb hby d2_60) rfl ((if0 _ _).trans (teq (by decide : ((0 : Int32) = (0 : Int32)))).1) (by decide) (by decide) k) ?_
          show Go _ _ _ _ (s₁.setTop (mkF m 67 #[.val (.int x0), .val (.long ((x0.toInt64) - (48 : Int64))), .second, .val (.int (0 : Int32)), .val (.int (x0 ||| (32 : Int32))), .val (.int (0 : Int32))] []))
          refine Go.step (fun _ k => XS.iconst X0.here hx rfl (hb hby d2_67) k) ?_
          show Go _ _ _ _ (s₁.setTop (mkF m 68 #[.val (.int x0), .val (.long ((x0.toInt64) - (48 : Int64))), .second, .val (.int (0 : Int32)), .val (.int (x0 ||| (32 : Int32))), .val (.int (0 : Int32))] [(.int (0 : Int32))]))
          have hz16 : ¬ ((65 ≤ x0.toInt ∧ x0.toInt ≤ 90) ∨ (97 ≤ x0.toInt ∧ x0.toInt ≤ 122) ∨ (48 ≤ x0.toInt ∧ x0.toInt ≤ 57)) := by
            obtain ⟨n1, n2, n3, n4, n5, n6⟩ := own_n
            have n7 := own_dig x0
            have n8 := own_or x0
            have n9 := own_l0
            have n10 := own_l10
            rw [Int64.lt_iff_toInt_lt] at hc1
            rw [Int64.lt_iff_toInt_lt] at hc7
            rw [own_lt] at hc13
            rw [own_lt] at hc15
            omega
          exact leafN X0 hx (t := .boolean) hret (by simp) hlk (w := (0 : Int32)) rfl (hb hby d2_68) ⟨own_if0 hz16, e0, rfl⟩ (by decide) (by decide)
        · refine Go.step (fun _ k => XS.icmpNo X0.here hx rfl (hb hby d2_44) rfl (flt hc15).2.2.1 k) ?_
          show Go _ _ _ _ (s₁.setTop (mkF m 47 #[.val (.int x0), .val (.long ((x0.toInt64) - (48 : Int64))), .second, .val (.int (0 : Int32)), .val (.int (x0 ||| (32 : Int32))), .unset] []))
          refine Go.step (fun _ k => XS.iconst X0.here hx rfl (hb hby d2_47) k) ?_
          show Go _ _ _ _ (s₁.setTop (mkF m 48 #[.val (.int x0), .val (.long ((x0.toInt64) - (48 : Int64))), .second, .val (.int (0 : Int32)), .val (.int (x0 ||| (32 : Int32))), .unset] [(.int (1 : Int32))]))
          refine Go.step (fun _ k => XS.goto X0.here hx rfl (pc0 := 48) (pc' := 52) rfl (hb hby d2_48) (by decide) (by decide) k) ?_
          show Go _ _ _ _ (s₁.setTop (mkF m 52 #[.val (.int x0), .val (.long ((x0.toInt64) - (48 : Int64))), .second, .val (.int (0 : Int32)), .val (.int (x0 ||| (32 : Int32))), .unset] [(.int (1 : Int32))]))
          refine Go.step (fun _ k => XS.istore X0.here hx rfl (hb hby d2_52) rfl (l' := #[.val (.int x0), .val (.long ((x0.toInt64) - (48 : Int64))), .second, .val (.int (0 : Int32)), .val (.int (x0 ||| (32 : Int32))), .val (.int (1 : Int32))]) rfl k) ?_
          show Go _ _ _ _ (s₁.setTop (mkF m 54 #[.val (.int x0), .val (.long ((x0.toInt64) - (48 : Int64))), .second, .val (.int (0 : Int32)), .val (.int (x0 ||| (32 : Int32))), .val (.int (1 : Int32))] []))
          refine Go.step (fun _ k => XS.iloadN X0.here hx rfl (hb hby d2_54) rfl k) ?_
          show Go _ _ _ _ (s₁.setTop (mkF m 55 #[.val (.int x0), .val (.long ((x0.toInt64) - (48 : Int64))), .second, .val (.int (0 : Int32)), .val (.int (x0 ||| (32 : Int32))), .val (.int (1 : Int32))] [(.int (0 : Int32))]))
          refine Go.step (fun _ k => XS.ifNo X0.here hx rfl (hb hby d2_55) rfl ((if0 _ _).trans (teq (by decide : ((0 : Int32) = (0 : Int32)))).2) k) ?_
          show Go _ _ _ _ (s₁.setTop (mkF m 58 #[.val (.int x0), .val (.long ((x0.toInt64) - (48 : Int64))), .second, .val (.int (0 : Int32)), .val (.int (x0 ||| (32 : Int32))), .val (.int (1 : Int32))] []))
          refine Go.step (fun _ k => XS.iload X0.here hx rfl (hb hby d2_58) rfl k) ?_
          show Go _ _ _ _ (s₁.setTop (mkF m 60 #[.val (.int x0), .val (.long ((x0.toInt64) - (48 : Int64))), .second, .val (.int (0 : Int32)), .val (.int (x0 ||| (32 : Int32))), .val (.int (1 : Int32))] [(.int (1 : Int32))]))
          refine Go.step (fun _ k => XS.ifNo X0.here hx rfl (hb hby d2_60) rfl ((if0 _ _).trans (feq (by decide : ¬ ((1 : Int32) = (0 : Int32)))).1) k) ?_
          show Go _ _ _ _ (s₁.setTop (mkF m 63 #[.val (.int x0), .val (.long ((x0.toInt64) - (48 : Int64))), .second, .val (.int (0 : Int32)), .val (.int (x0 ||| (32 : Int32))), .val (.int (1 : Int32))] []))
          refine Go.step (fun _ k => XS.iconst X0.here hx rfl (hb hby d2_63) k) ?_
          show Go _ _ _ _ (s₁.setTop (mkF m 64 #[.val (.int x0), .val (.long ((x0.toInt64) - (48 : Int64))), .second, .val (.int (0 : Int32)), .val (.int (x0 ||| (32 : Int32))), .val (.int (1 : Int32))] [(.int (1 : Int32))]))
          refine Go.step (fun _ k => XS.goto X0.here hx rfl (pc0 := 64) (pc' := 68) rfl (hb hby d2_64) (by decide) (by decide) k) ?_
          show Go _ _ _ _ (s₁.setTop (mkF m 68 #[.val (.int x0), .val (.long ((x0.toInt64) - (48 : Int64))), .second, .val (.int (0 : Int32)), .val (.int (x0 ||| (32 : Int32))), .val (.int (1 : Int32))] [(.int (1 : Int32))]))
          have hz17 : ((65 ≤ x0.toInt ∧ x0.toInt ≤ 90) ∨ (97 ≤ x0.toInt ∧ x0.toInt ≤ 122) ∨ (48 ≤ x0.toInt ∧ x0.toInt ≤ 57)) := by
            obtain ⟨n1, n2, n3, n4, n5, n6⟩ := own_n
            have n7 := own_dig x0
            have n8 := own_or x0
            have n9 := own_l0
            have n10 := own_l10
            rw [Int64.lt_iff_toInt_lt] at hc1
            rw [Int64.lt_iff_toInt_lt] at hc7
            rw [own_lt] at hc13
            rw [own_lt] at hc15
            omega
          exact leafN X0 hx (t := .boolean) hret (by simp) hlk (w := (1 : Int32)) rfl (hb hby d2_68) ⟨own_if1 hz17, e0, rfl⟩ (by decide) (by decide)
theorem pn0 : plainFor x = true := plainFor_of_name (by first | (simp [plainName, overriddenIn, x]; done) | decide +kernel)
theorem ef0 (m : MethodId) (x0 : Int32) (x1 : Int32) : entryFrame m #[(.int x0), (.int x1)] maxLocals = mkF m 0 #[.val (.int x0), .val (.int x1), .unset, .unset, .unset, .unset] [] := by first | (simp [entryFrame, mkF, argsToLocals, Value.category, maxLocals]; done) | rfl
theorem own_idx (k : Int32) : ¬ ((k &&& (7 : Int32)) - ((k &&& (7 : Int32)) / (6 : Int32)) * (6 : Int32)) < 0 ∧ ((k &&& (7 : Int32)) - ((k &&& (7 : Int32)) / (6 : Int32)) * (6 : Int32)) < 6 := by
  have h := c_mask k 7 3 (by decide) (by decide)
  have h1 : 0 ≤ (k &&& (7 : Int32)).toInt := by rw [h]; omega
  have h2 : (k &&& (7 : Int32)).toInt < 8 := by rw [h]; omega
  generalize (k &&& (7 : Int32)) = j at *
  have key : ∀ i : Fin 8, (¬ ((Int32.ofInt (i.1 : Int)) - ((Int32.ofInt (i.1 : Int)) / (6 : Int32)) * (6 : Int32)) < 0 ∧ ((Int32.ofInt (i.1 : Int)) - ((Int32.ofInt (i.1 : Int)) / (6 : Int32)) * (6 : Int32)) < 6) := by decide +kernel
  have e : Int32.ofInt ((j.toInt.toNat : Nat) : Int) = j := by rw [Int.toNat_of_nonneg h1]; exact Int32.ofInt_toInt j
  have := key ⟨j.toInt.toNat, by omega⟩
  rw [e] at this; exact this
set_option maxRecDepth 65536 in
set_option maxHeartbeats 40000000 in
theorem rm0 (l : Launch) (Z : State) (a0 : Array Value) (hw : ∀ d ∈ tables_1, d.before a0 Z = true) (ws : List Jvm.Cond) (x0 : Int32) (x1 : Int32) (h0 : Heap) : Con l Z x code maxLocals ret ws room_1 #[(.int x0), (.int x1)] h0 (fun v h L => v = some (.int 1) ∧ Fr h0.size L) := by
  refine Con.of pn0 fun p e s m below meth c s₁ hZ hx hby hml hown hret hlk hnm X0 e0 => ?_
  rw [ef0]
  show Go _ _ _ _ (s₁.setTop (mkF m 0 #[.val (.int x0), .val (.int x1), .unset, .unset, .unset, .unset] []))
  refine Go.step (fun _ k => XS.bipush X0.here hx rfl (hb hby at_0) k) ?_
  show Go _ _ _ _ (s₁.setTop (mkF m 2 #[.val (.int x0), .val (.int x1), .unset, .unset, .unset, .unset] [(.int (6 : Int32))]))
  obtain ⟨T1, h1, k1, X1, e1, E1, A1, st1⟩ := newP X0 hx hZ (hw _ (List.mem_of_getElem? (i := 0) rfl)) e0 (g := (mkF m 2 #[.val (.int x0), .val (.int x1), .unset, .unset, .unset, .unset] [(.int (6 : Int32))])) rfl (hb hby at_2) rfl (by decide) (cap := 6) (by decide) (by decide) (by decide) (by decide)
  obtain ⟨b1, g1⟩ : ∃ z, z = h0.size := ⟨_, rfl⟩
  rw [← g1] at A1 st1
  have V_b1 : Arv Z h1 b1 k1 .int (6 : Int32) [(.int (0 : Int32)), (.int (0 : Int32)), (.int (0 : Int32)), (.int (0 : Int32)), (.int (0 : Int32)), (.int (0 : Int32))] (.int (0 : Int32)) := (Arv.new A1 (by decide)).pad (pad_rep [] (.int (0 : Int32)) 6)
  have gb_b1 : h0.size ≤ b1 := Nat.le_trans (Nat.le_refl _) (Nat.le_of_eq g1.symm)
  refine Go.step st1 ?_
  show Go _ _ _ _ (T1.setTop (mkF m 4 #[.val (.int x0), .val (.int x1), .unset, .unset, .unset, .unset] [(.ref b1)]))
  refine Go.step (fun _ k => XS.dup X1.here hx rfl (hb hby at_4) rfl rfl k) ?_
  show Go _ _ _ _ (T1.setTop (mkF m 5 #[.val (.int x0), .val (.int x1), .unset, .unset, .unset, .unset] [(.ref b1), (.ref b1)]))
  refine Go.step (fun _ k => XS.iconst X1.here hx rfl (hb hby at_5) k) ?_
  show Go _ _ _ _ (T1.setTop (mkF m 6 #[.val (.int x0), .val (.int x1), .unset, .unset, .unset, .unset] [(.int (0 : Int32)), (.ref b1), (.ref b1)]))
  refine Go.step (fun _ k => XS.bipush X1.here hx rfl (hb hby at_6) k) ?_
  show Go _ _ _ _ (T1.setTop (mkF m 8 #[.val (.int x0), .val (.int x1), .unset, .unset, .unset, .unset] [(.int (48 : Int32)), (.int (0 : Int32)), (.ref b1), (.ref b1)]))
  obtain ⟨cl2, Ar2, q2, S2, N2, H2, G2⟩ := V_b1
  obtain ⟨T2, h2, X2, e2, W2, st2⟩ := stI X1 hx hZ e1 Ar2 (j := (0 : Int32)) (inb_of S2 ⟨by decide, by decide⟩) (g := (mkF m 8 #[.val (.int x0), .val (.int x1), .unset, .unset, .unset, .unset] [(.int (48 : Int32)), (.int (0 : Int32)), (.ref b1), (.ref b1)])) rfl rfl (hb hby at_8)
  have V_b1_2 := Arv.set Ar2 q2 S2 N2 H2 G2 rfl W2 0 rfl (Nat.le_of_ble_eq_true rfl)
  have NF2 := Fr.snoc X2 (Fr.nil h0.size) gb_b1
  refine Go.step st2 ?_
  show Go _ _ _ _ (T2.setTop (mkF m 9 #[.val (.int x0), .val (.int x1), .unset, .unset, .unset, .unset] [(.ref b1)]))
  refine Go.step (fun _ k => XS.dup X2.here hx rfl (hb hby at_9) rfl rfl k) ?_
  show Go _ _ _ _ (T2.setTop (mkF m 10 #[.val (.int x0), .val (.int x1), .unset, .unset, .unset, .unset] [(.ref b1), (.ref b1)]))
  refine Go.step (fun _ k => XS.iconst X2.here hx rfl (hb hby at_10) k) ?_
  show Go _ _ _ _ (T2.setTop (mkF m 11 #[.val (.int x0), .val (.int x1), .unset, .unset, .unset, .unset] [(.int (1 : Int32)), (.ref b1), (.ref b1)]))
  refine Go.step (fun _ k => XS.bipush X2.here hx rfl (hb hby at_11) k) ?_
  show Go _ _ _ _ (T2.setTop (mkF m 13 #[.val (.int x0), .val (.int x1), .unset, .unset, .unset, .unset] [(.int (57 : Int32)), (.int (1 : Int32)), (.ref b1), (.ref b1)]))
  obtain ⟨cl3, Ar3, q3, S3, N3, H3, G3⟩ := V_b1_2
  obtain ⟨T3, h3, X3, e3, W3, st3⟩ := stI X2 hx hZ e2 Ar3 (j := (1 : Int32)) (inb_of S3 ⟨by decide, by decide⟩) (g := (mkF m 13 #[.val (.int x0), .val (.int x1), .unset, .unset, .unset, .unset] [(.int (57 : Int32)), (.int (1 : Int32)), (.ref b1), (.ref b1)])) rfl rfl (hb hby at_13)
  have V_b1_3 := Arv.set Ar3 q3 S3 N3 H3 G3 rfl W3 1 rfl (Nat.le_of_ble_eq_true rfl)
  have NF3 := Fr.snoc X3 NF2 gb_b1
  refine Go.step st3 ?_
  show Go _ _ _ _ (T3.setTop (mkF m 14 #[.val (.int x0), .val (.int x1), .unset, .unset, .unset, .unset] [(.ref b1)]))
  refine Go.step (fun _ k => XS.dup X3.here hx rfl (hb hby at_14) rfl rfl k) ?_
  show Go _ _ _ _ (T3.setTop (mkF m 15 #[.val (.int x0), .val (.int x1), .unset, .unset, .unset, .unset] [(.ref b1), (.ref b1)]))
  refine Go.step (fun _ k => XS.iconst X3.here hx rfl (hb hby at_15) k) ?_
  show Go _ _ _ _ (T3.setTop (mkF m 16 #[.val (.int x0), .val (.int x1), .unset, .unset, .unset, .unset] [(.int (2 : Int32)), (.ref b1), (.ref b1)]))
  refine Go.step (fun _ k => XS.bipush X3.here hx rfl (hb hby at_16) k) ?_
  show Go _ _ _ _ (T3.setTop (mkF m 18 #[.val (.int x0), .val (.int x1), .unset, .unset, .unset, .unset] [(.int (65 : Int32)), (.int (2 : Int32)), (.ref b1), (.ref b1)]))
  obtain ⟨cl4, Ar4, q4, S4, N4, H4, G4⟩ := V_b1_3
  obtain ⟨T4, h4, X4, e4, W4, st4⟩ := stI X3 hx hZ e3 Ar4 (j := (2 : Int32)) (inb_of S4 ⟨by decide, by decide⟩) (g := (mkF m 18 #[.val (.int x0), .val (.int x1), .unset, .unset, .unset, .unset] [(.int (65 : Int32)), (.int (2 : Int32)), (.ref b1), (.ref b1)])) rfl rfl (hb hby at_18)
  have V_b1_4 := Arv.set Ar4 q4 S4 N4 H4 G4 rfl W4 2 rfl (Nat.le_of_ble_eq_true rfl)
  have NF4 := Fr.snoc X4 NF3 gb_b1
  refine Go.step st4 ?_
  show Go _ _ _ _ (T4.setTop (mkF m 19 #[.val (.int x0), .val (.int x1), .unset, .unset, .unset, .unset] [(.ref b1)]))
  refine Go.step (fun _ k => XS.dup X4.here hx rfl (hb hby at_19) rfl rfl k) ?_
  show Go _ _ _ _ (T4.setTop (mkF m 20 #[.val (.int x0), .val (.int x1), .unset, .unset, .unset, .unset] [(.ref b1), (.ref b1)]))
  refine Go.step (fun _ k => XS.iconst X4.here hx rfl (hb hby at_20) k) ?_
  show Go _ _ _ _ (T4.setTop (mkF m 21 #[.val (.int x0), .val (.int x1), .unset, .unset, .unset, .unset] [(.int (3 : Int32)), (.ref b1), (.ref b1)]))
  refine Go.step (fun _ k => XS.bipush X4.here hx rfl (hb hby at_21) k) ?_
  show Go _ _ _ _ (T4.setTop (mkF m 23 #[.val (.int x0), .val (.int x1), .unset, .unset, .unset, .unset] [(.int (90 : Int32)), (.int (3 : Int32)), (.ref b1), (.ref b1)]))
  obtain ⟨cl5, Ar5, q5, S5, N5, H5, G5⟩ := V_b1_4
  obtain ⟨T5, h5, X5, e5, W5, st5⟩ := stI X4 hx hZ e4 Ar5 (j := (3 : Int32)) (inb_of S5 ⟨by decide, by decide⟩) (g := (mkF m 23 #[.val (.int x0), .val (.int x1), .unset, .unset, .unset, .unset] [(.int (90 : Int32)), (.int (3 : Int32)), (.ref b1), (.ref b1)])) rfl rfl (hb hby at_23)
  have V_b1_5 := Arv.set Ar5 q5 S5 N5 H5 G5 rfl W5 3 rfl (Nat.le_of_ble_eq_true rfl)
  have NF5 := Fr.snoc X5 NF4 gb_b1
  refine Go.step st5 ?_
  show Go _ _ _ _ (T5.setTop (mkF m 24 #[.val (.int x0), .val (.int x1), .unset, .unset, .unset, .unset] [(.ref b1)]))
  refine Go.step (fun _ k => XS.dup X5.here hx rfl (hb hby at_24) rfl rfl k) ?_
  show Go _ _ _ _ (T5.setTop (mkF m 25 #[.val (.int x0), .val (.int x1), .unset, .unset, .unset, .unset] [(.ref b1), (.ref b1)]))
  refine Go.step (fun _ k => XS.iconst X5.here hx rfl (hb hby at_25) k) ?_
  show Go _ _ _ _ (T5.setTop (mkF m 26 #[.val (.int x0), .val (.int x1), .unset, .unset, .unset, .unset] [(.int (4 : Int32)), (.ref b1), (.ref b1)]))
  refine Go.step (fun _ k => XS.bipush X5.here hx rfl (hb hby at_26) k) ?_
  show Go _ _ _ _ (T5.setTop (mkF m 28 #[.val (.int x0), .val (.int x1), .unset, .unset, .unset, .unset] [(.int (97 : Int32)), (.int (4 : Int32)), (.ref b1), (.ref b1)]))
  obtain ⟨cl6, Ar6, q6, S6, N6, H6, G6⟩ := V_b1_5
  obtain ⟨T6, h6, X6, e6, W6, st6⟩ := stI X5 hx hZ e5 Ar6 (j := (4 : Int32)) (inb_of S6 ⟨by decide, by decide⟩) (g := (mkF m 28 #[.val (.int x0), .val (.int x1), .unset, .unset, .unset, .unset] [(.int (97 : Int32)), (.int (4 : Int32)), (.ref b1), (.ref b1)])) rfl rfl (hb hby at_28)
  have V_b1_6 := Arv.set Ar6 q6 S6 N6 H6 G6 rfl W6 4 rfl (Nat.le_of_ble_eq_true rfl)
  have NF6 := Fr.snoc X6 NF5 gb_b1
  refine Go.step st6 ?_
  show Go _ _ _ _ (T6.setTop (mkF m 29 #[.val (.int x0), .val (.int x1), .unset, .unset, .unset, .unset] [(.ref b1)]))
  refine Go.step (fun _ k => XS.dup X6.here hx rfl (hb hby at_29) rfl rfl k) ?_
  show Go _ _ _ _ (T6.setTop (mkF m 30 #[.val (.int x0), .val (.int x1), .unset, .unset, .unset, .unset] [(.ref b1), (.ref b1)]))
  refine Go.step (fun _ k => XS.iconst X6.here hx rfl (hb hby at_30) k) ?_
  show Go _ _ _ _ (T6.setTop (mkF m 31 #[.val (.int x0), .val (.int x1), .unset, .unset, .unset, .unset] [(.int (5 : Int32)), (.ref b1), (.ref b1)]))
  refine Go.step (fun _ k => XS.bipush X6.here hx rfl (hb hby at_31) k) ?_
  show Go _ _ _ _ (T6.setTop (mkF m 33 #[.val (.int x0), .val (.int x1), .unset, .unset, .unset, .unset] [(.int (122 : Int32)), (.int (5 : Int32)), (.ref b1), (.ref b1)]))
  obtain ⟨cl7, Ar7, q7, S7, N7, H7, G7⟩ := V_b1_6
  obtain ⟨T7, h7, X7, e7, W7, st7⟩ := stI X6 hx hZ e6 Ar7 (j := (5 : Int32)) (inb_of S7 ⟨by decide, by decide⟩) (g := (mkF m 33 #[.val (.int x0), .val (.int x1), .unset, .unset, .unset, .unset] [(.int (122 : Int32)), (.int (5 : Int32)), (.ref b1), (.ref b1)])) rfl rfl (hb hby at_33)
  have V_b1_7 := Arv.set Ar7 q7 S7 N7 H7 G7 rfl W7 5 rfl (Nat.le_of_ble_eq_true rfl)
  have NF7 := Fr.snoc X7 NF6 gb_b1
  refine Go.step st7 ?_
  show Go _ _ _ _ (T7.setTop (mkF m 34 #[.val (.int x0), .val (.int x1), .unset, .unset, .unset, .unset] [(.ref b1)]))
  refine Go.step (fun _ k => XS.astoreN X7.here hx rfl (hb hby at_34) rfl rfl (l' := #[.val (.int x0), .val (.int x1), .val (.ref b1), .unset, .unset, .unset]) rfl k) ?_
  show Go _ _ _ _ (T7.setTop (mkF m 35 #[.val (.int x0), .val (.int x1), .val (.ref b1), .unset, .unset, .unset] []))
  refine Go.step (fun _ k => XS.iloadN X7.here hx rfl (hb hby at_35) rfl k) ?_
  show Go _ _ _ _ (T7.setTop (mkF m 36 #[.val (.int x0), .val (.int x1), .val (.ref b1), .unset, .unset, .unset] [(.int x1)]))
  refine Go.step (fun _ k => XS.bipush X7.here hx rfl (hb hby at_36) k) ?_
  show Go _ _ _ _ (T7.setTop (mkF m 38 #[.val (.int x0), .val (.int x1), .val (.ref b1), .unset, .unset, .unset] [(.int (7 : Int32)), (.int x1)]))
  refine Go.step (fun _ k => XS.iand X7.here hx rfl (hb hby at_38) rfl k) ?_
  show Go _ _ _ _ (T7.setTop (mkF m 39 #[.val (.int x0), .val (.int x1), .val (.ref b1), .unset, .unset, .unset] [(.int (x1 &&& (7 : Int32)))]))
  refine Go.step (fun _ k => XS.bipush X7.here hx rfl (hb hby at_39) k) ?_
  show Go _ _ _ _ (T7.setTop (mkF m 41 #[.val (.int x0), .val (.int x1), .val (.ref b1), .unset, .unset, .unset] [(.int (6 : Int32)), (.int (x1 &&& (7 : Int32)))]))
  refine Go.step (fun _ k => XS.irem X7.here hx rfl (hb hby at_41) rfl (by decide) k) ?_
  show Go _ _ _ _ (T7.setTop (mkF m 42 #[.val (.int x0), .val (.int x1), .val (.ref b1), .unset, .unset, .unset] [(.int ((x1 &&& (7 : Int32)) - ((x1 &&& (7 : Int32)) / (6 : Int32)) * (6 : Int32)))]))
  refine Go.step (fun _ k => XS.istoreN X7.here hx rfl (hb hby at_42) rfl (l' := #[.val (.int x0), .val (.int x1), .val (.ref b1), .val (.int ((x1 &&& (7 : Int32)) - ((x1 &&& (7 : Int32)) / (6 : Int32)) * (6 : Int32))), .unset, .unset]) rfl k) ?_
  show Go _ _ _ _ (T7.setTop (mkF m 43 #[.val (.int x0), .val (.int x1), .val (.ref b1), .val (.int ((x1 &&& (7 : Int32)) - ((x1 &&& (7 : Int32)) / (6 : Int32)) * (6 : Int32))), .unset, .unset] []))
  refine Go.step (fun _ k => XS.iloadN X7.here hx rfl (hb hby at_43) rfl k) ?_
  show Go _ _ _ _ (T7.setTop (mkF m 44 #[.val (.int x0), .val (.int x1), .val (.ref b1), .val (.int ((x1 &&& (7 : Int32)) - ((x1 &&& (7 : Int32)) / (6 : Int32)) * (6 : Int32))), .unset, .unset] [(.int x1)]))
  refine Go.step (fun _ k => XS.iconst X7.here hx rfl (hb hby at_44) k) ?_
  show Go _ _ _ _ (T7.setTop (mkF m 45 #[.val (.int x0), .val (.int x1), .val (.ref b1), .val (.int ((x1 &&& (7 : Int32)) - ((x1 &&& (7 : Int32)) / (6 : Int32)) * (6 : Int32))), .unset, .unset] [(.int (3 : Int32)), (.int x1)]))
  refine Go.step (fun _ k => XS.iushr X7.here hx rfl (hb hby at_45) rfl k) ?_
  show Go _ _ _ _ (T7.setTop (mkF m 46 #[.val (.int x0), .val (.int x1), .val (.ref b1), .val (.int ((x1 &&& (7 : Int32)) - ((x1 &&& (7 : Int32)) / (6 : Int32)) * (6 : Int32))), .unset, .unset] [(.int ((x1.toUInt32 >>> ((3 : Int32) &&& 31).toUInt32).toInt32))]))
  refine Go.step (fun _ k => XS.iconst X7.here hx rfl (hb hby at_46) k) ?_
  show Go _ _ _ _ (T7.setTop (mkF m 47 #[.val (.int x0), .val (.int x1), .val (.ref b1), .val (.int ((x1 &&& (7 : Int32)) - ((x1 &&& (7 : Int32)) / (6 : Int32)) * (6 : Int32))), .unset, .unset] [(.int (3 : Int32)), (.int ((x1.toUInt32 >>> ((3 : Int32) &&& 31).toUInt32).toInt32))]))
  refine Go.step (fun _ k => XS.iand X7.here hx rfl (hb hby at_47) rfl k) ?_
  show Go _ _ _ _ (T7.setTop (mkF m 48 #[.val (.int x0), .val (.int x1), .val (.ref b1), .val (.int ((x1 &&& (7 : Int32)) - ((x1 &&& (7 : Int32)) / (6 : Int32)) * (6 : Int32))), .unset, .unset] [(.int (((x1.toUInt32 >>> ((3 : Int32) &&& 31).toUInt32).toInt32) &&& (3 : Int32)))]))
  refine Go.step (fun _ k => XS.iconst X7.here hx rfl (hb hby at_48) k) ?_
  show Go _ _ _ _ (T7.setTop (mkF m 49 #[.val (.int x0), .val (.int x1), .val (.ref b1), .val (.int ((x1 &&& (7 : Int32)) - ((x1 &&& (7 : Int32)) / (6 : Int32)) * (6 : Int32))), .unset, .unset] [(.int (3 : Int32)), (.int (((x1.toUInt32 >>> ((3 : Int32) &&& 31).toUInt32).toInt32) &&& (3 : Int32)))]))
  refine Go.step (fun _ k => XS.irem X7.here hx rfl (hb hby at_49) rfl (by decide) k) ?_
  show Go _ _ _ _ (T7.setTop (mkF m 50 #[.val (.int x0), .val (.int x1), .val (.ref b1), .val (.int ((x1 &&& (7 : Int32)) - ((x1 &&& (7 : Int32)) / (6 : Int32)) * (6 : Int32))), .unset, .unset] [(.int ((((x1.toUInt32 >>> ((3 : Int32) &&& 31).toUInt32).toInt32) &&& (3 : Int32)) - ((((x1.toUInt32 >>> ((3 : Int32) &&& 31).toUInt32).toInt32) &&& (3 : Int32)) / (3 : Int32)) * (3 : Int32)))]))
  refine Go.step (fun _ k => XS.iconst X7.here hx rfl (hb hby at_50) k) ?_
  show Go _ _ _ _ (T7.setTop (mkF m 51 #[.val (.int x0), .val (.int x1), .val (.ref b1), .val (.int ((x1 &&& (7 : Int32)) - ((x1 &&& (7 : Int32)) / (6 : Int32)) * (6 : Int32))), .unset, .unset] [(.int (1 : Int32)), (.int ((((x1.toUInt32 >>> ((3 : Int32) &&& 31).toUInt32).toInt32) &&& (3 : Int32)) - ((((x1.toUInt32 >>> ((3 : Int32) &&& 31).toUInt32).toInt32) &&& (3 : Int32)) / (3 : Int32)) * (3 : Int32)))]))
  refine Go.step (fun _ k => XS.isub X7.here hx rfl (hb hby at_51) rfl k) ?_
  show Go _ _ _ _ (T7.setTop (mkF m 52 #[.val (.int x0), .val (.int x1), .val (.ref b1), .val (.int ((x1 &&& (7 : Int32)) - ((x1 &&& (7 : Int32)) / (6 : Int32)) * (6 : Int32))), .unset, .unset] [(.int (((((x1.toUInt32 >>> ((3 : Int32) &&& 31).toUInt32).toInt32) &&& (3 : Int32)) - ((((x1.toUInt32 >>> ((3 : Int32) &&& 31).toUInt32).toInt32) &&& (3 : Int32)) / (3 : Int32)) * (3 : Int32)) - (1 : Int32)))]))
  refine Go.step (fun _ k => XS.istore X7.here hx rfl (hb hby at_52) rfl (l' := #[.val (.int x0), .val (.int x1), .val (.ref b1), .val (.int ((x1 &&& (7 : Int32)) - ((x1 &&& (7 : Int32)) / (6 : Int32)) * (6 : Int32))), .val (.int (((((x1.toUInt32 >>> ((3 : Int32) &&& 31).toUInt32).toInt32) &&& (3 : Int32)) - ((((x1.toUInt32 >>> ((3 : Int32) &&& 31).toUInt32).toInt32) &&& (3 : Int32)) / (3 : Int32)) * (3 : Int32)) - (1 : Int32))), .unset]) rfl k) ?_
  show Go _ _ _ _ (T7.setTop (mkF m 54 #[.val (.int x0), .val (.int x1), .val (.ref b1), .val (.int ((x1 &&& (7 : Int32)) - ((x1 &&& (7 : Int32)) / (6 : Int32)) * (6 : Int32))), .val (.int (((((x1.toUInt32 >>> ((3 : Int32) &&& 31).toUInt32).toInt32) &&& (3 : Int32)) - ((((x1.toUInt32 >>> ((3 : Int32) &&& 31).toUInt32).toInt32) &&& (3 : Int32)) / (3 : Int32)) * (3 : Int32)) - (1 : Int32))), .unset] []))
  refine Go.step (fun _ k => XS.aloadN X7.here hx rfl (hb hby at_54) rfl rfl k) ?_
  show Go _ _ _ _ (T7.setTop (mkF m 55 #[.val (.int x0), .val (.int x1), .val (.ref b1), .val (.int ((x1 &&& (7 : Int32)) - ((x1 &&& (7 : Int32)) / (6 : Int32)) * (6 : Int32))), .val (.int (((((x1.toUInt32 >>> ((3 : Int32) &&& 31).toUInt32).toInt32) &&& (3 : Int32)) - ((((x1.toUInt32 >>> ((3 : Int32) &&& 31).toUInt32).toInt32) &&& (3 : Int32)) / (3 : Int32)) * (3 : Int32)) - (1 : Int32))), .unset] [(.ref b1)]))
  refine Go.step (fun _ k => XS.iloadN X7.here hx rfl (hb hby at_55) rfl k) ?_
  show Go _ _ _ _ (T7.setTop (mkF m 56 #[.val (.int x0), .val (.int x1), .val (.ref b1), .val (.int ((x1 &&& (7 : Int32)) - ((x1 &&& (7 : Int32)) / (6 : Int32)) * (6 : Int32))), .val (.int (((((x1.toUInt32 >>> ((3 : Int32) &&& 31).toUInt32).toInt32) &&& (3 : Int32)) - ((((x1.toUInt32 >>> ((3 : Int32) &&& 31).toUInt32).toInt32) &&& (3 : Int32)) / (3 : Int32)) * (3 : Int32)) - (1 : Int32))), .unset] [(.int ((x1 &&& (7 : Int32)) - ((x1 &&& (7 : Int32)) / (6 : Int32)) * (6 : Int32))), (.ref b1)]))
  obtain ⟨clL, ArL, qL, SL, NL, HL, GL⟩ := V_b1_7
  have hin : ¬ (((x1 &&& (7 : Int32)) - ((x1 &&& (7 : Int32)) / (6 : Int32)) * (6 : Int32)) < 0 ∨ clL.slots.size ≤ ((x1 &&& (7 : Int32)) - ((x1 &&& (7 : Int32)) / (6 : Int32)) * (6 : Int32)).toNatClampNeg) := inb_of SL (own_idx x1)
  obtain ⟨ww, hww⟩ := own_fitI (GL _ (Nat.lt_of_not_le fun y => hin (Or.inr y)))
  refine Go.step (fun t k => X7.iaload hx (j := ((x1 &&& (7 : Int32)) - ((x1 &&& (7 : Int32)) / (6 : Int32)) * (6 : Int32))) (v := .int ww) (by rw [e7]; exact ArL.1) (State.isArrayOf_alike hZ.alike ArL.2.1) ArL.2.2 hin (HL.at hin hww) (g := (mkF m 56 #[.val (.int x0), .val (.int x1), .val (.ref b1), .val (.int ((x1 &&& (7 : Int32)) - ((x1 &&& (7 : Int32)) / (6 : Int32)) * (6 : Int32))), .val (.int (((((x1.toUInt32 >>> ((3 : Int32) &&& 31).toUInt32).toInt32) &&& (3 : Int32)) - ((((x1.toUInt32 >>> ((3 : Int32) &&& 31).toUInt32).toInt32) &&& (3 : Int32)) / (3 : Int32)) * (3 : Int32)) - (1 : Int32))), .unset] [(.int ((x1 &&& (7 : Int32)) - ((x1 &&& (7 : Int32)) / (6 : Int32)) * (6 : Int32))), (.ref b1)])) rfl rfl (hb hby at_56) t k) ?_
  show Go _ _ _ _ (T7.setTop (mkF m 57 #[.val (.int x0), .val (.int x1), .val (.ref b1), .val (.int ((x1 &&& (7 : Int32)) - ((x1 &&& (7 : Int32)) / (6 : Int32)) * (6 : Int32))), .val (.int (((((x1.toUInt32 >>> ((3 : Int32) &&& 31).toUInt32).toInt32) &&& (3 : Int32)) - ((((x1.toUInt32 >>> ((3 : Int32) &&& 31).toUInt32).toInt32) &&& (3 : Int32)) / (3 : Int32)) * (3 : Int32)) - (1 : Int32))), .unset] [(.int ww)]))
  refine Go.step (fun _ k => XS.iload X7.here hx rfl (hb hby at_57) rfl k) ?_
  show Go _ _ _ _ (T7.setTop (mkF m 59 #[.val (.int x0), .val (.int x1), .val (.ref b1), .val (.int ((x1 &&& (7 : Int32)) - ((x1 &&& (7 : Int32)) / (6 : Int32)) * (6 : Int32))), .val (.int (((((x1.toUInt32 >>> ((3 : Int32) &&& 31).toUInt32).toInt32) &&& (3 : Int32)) - ((((x1.toUInt32 >>> ((3 : Int32) &&& 31).toUInt32).toInt32) &&& (3 : Int32)) / (3 : Int32)) * (3 : Int32)) - (1 : Int32))), .unset] [(.int (((((x1.toUInt32 >>> ((3 : Int32) &&& 31).toUInt32).toInt32) &&& (3 : Int32)) - ((((x1.toUInt32 >>> ((3 : Int32) &&& 31).toUInt32).toInt32) &&& (3 : Int32)) / (3 : Int32)) * (3 : Int32)) - (1 : Int32))), (.int ww)]))
  refine Go.step (fun _ k => XS.iadd X7.here hx rfl (hb hby at_59) rfl k) ?_
  show Go _ _ _ _ (T7.setTop (mkF m 60 #[.val (.int x0), .val (.int x1), .val (.ref b1), .val (.int ((x1 &&& (7 : Int32)) - ((x1 &&& (7 : Int32)) / (6 : Int32)) * (6 : Int32))), .val (.int (((((x1.toUInt32 >>> ((3 : Int32) &&& 31).toUInt32).toInt32) &&& (3 : Int32)) - ((((x1.toUInt32 >>> ((3 : Int32) &&& 31).toUInt32).toInt32) &&& (3 : Int32)) / (3 : Int32)) * (3 : Int32)) - (1 : Int32))), .unset] [(.int (ww + (((((x1.toUInt32 >>> ((3 : Int32) &&& 31).toUInt32).toInt32) &&& (3 : Int32)) - ((((x1.toUInt32 >>> ((3 : Int32) &&& 31).toUInt32).toInt32) &&& (3 : Int32)) / (3 : Int32)) * (3 : Int32)) - (1 : Int32))))]))
  refine Go.step (fun _ k => XS.istore X7.here hx rfl (hb hby at_60) rfl (l' := #[.val (.int x0), .val (.int x1), .val (.ref b1), .val (.int ((x1 &&& (7 : Int32)) - ((x1 &&& (7 : Int32)) / (6 : Int32)) * (6 : Int32))), .val (.int (((((x1.toUInt32 >>> ((3 : Int32) &&& 31).toUInt32).toInt32) &&& (3 : Int32)) - ((((x1.toUInt32 >>> ((3 : Int32) &&& 31).toUInt32).toInt32) &&& (3 : Int32)) / (3 : Int32)) * (3 : Int32)) - (1 : Int32))), .val (.int (ww + (((((x1.toUInt32 >>> ((3 : Int32) &&& 31).toUInt32).toInt32) &&& (3 : Int32)) - ((((x1.toUInt32 >>> ((3 : Int32) &&& 31).toUInt32).toInt32) &&& (3 : Int32)) / (3 : Int32)) * (3 : Int32)) - (1 : Int32))))]) rfl k) ?_
  show Go _ _ _ _ (T7.setTop (mkF m 62 #[.val (.int x0), .val (.int x1), .val (.ref b1), .val (.int ((x1 &&& (7 : Int32)) - ((x1 &&& (7 : Int32)) / (6 : Int32)) * (6 : Int32))), .val (.int (((((x1.toUInt32 >>> ((3 : Int32) &&& 31).toUInt32).toInt32) &&& (3 : Int32)) - ((((x1.toUInt32 >>> ((3 : Int32) &&& 31).toUInt32).toInt32) &&& (3 : Int32)) / (3 : Int32)) * (3 : Int32)) - (1 : Int32))), .val (.int (ww + (((((x1.toUInt32 >>> ((3 : Int32) &&& 31).toUInt32).toInt32) &&& (3 : Int32)) - ((((x1.toUInt32 >>> ((3 : Int32) &&& 31).toUInt32).toInt32) &&& (3 : Int32)) / (3 : Int32)) * (3 : Int32)) - (1 : Int32))))] []))
  refine Go.step (fun _ k => XS.iloadN X7.here hx rfl (hb hby at_62) rfl k) ?_
  show Go _ _ _ _ (T7.setTop (mkF m 63 #[.val (.int x0), .val (.int x1), .val (.ref b1), .val (.int ((x1 &&& (7 : Int32)) - ((x1 &&& (7 : Int32)) / (6 : Int32)) * (6 : Int32))), .val (.int (((((x1.toUInt32 >>> ((3 : Int32) &&& 31).toUInt32).toInt32) &&& (3 : Int32)) - ((((x1.toUInt32 >>> ((3 : Int32) &&& 31).toUInt32).toInt32) &&& (3 : Int32)) / (3 : Int32)) * (3 : Int32)) - (1 : Int32))), .val (.int (ww + (((((x1.toUInt32 >>> ((3 : Int32) &&& 31).toUInt32).toInt32) &&& (3 : Int32)) - ((((x1.toUInt32 >>> ((3 : Int32) &&& 31).toUInt32).toInt32) &&& (3 : Int32)) / (3 : Int32)) * (3 : Int32)) - (1 : Int32))))] [(.int x0)]))
  refine goS X7 hx hZ hown (hw _ (List.mem_of_getElem? (i := 1) rfl)) (hw _ (List.mem_of_getElem? (i := 2) rfl)) (hw _ (List.mem_of_getElem? (i := 3) rfl)) (hw _ (List.mem_of_getElem? (i := 4) rfl)) (by decide) (rm1 l Z a0 hw [] x0 _) e7 (by rw [hml]; rfl) [(.int x0)] [] rfl pd1 rfl rfl 0 rfl (hb hby at_63) (by decide) (by decide) (by decide) (by decide) fun T8 L8 v8 q8 X8 => ?_
  obtain ⟨rfl, e8, rfl⟩ := q8
  rw [List.append_nil] at X8
  show Go _ _ _ _ (T8.setTop (mkF m 66 #[.val (.int x0), .val (.int x1), .val (.ref b1), .val (.int ((x1 &&& (7 : Int32)) - ((x1 &&& (7 : Int32)) / (6 : Int32)) * (6 : Int32))), .val (.int (((((x1.toUInt32 >>> ((3 : Int32) &&& 31).toUInt32).toInt32) &&& (3 : Int32)) - ((((x1.toUInt32 >>> ((3 : Int32) &&& 31).toUInt32).toInt32) &&& (3 : Int32)) / (3 : Int32)) * (3 : Int32)) - (1 : Int32))), .val (.int (ww + (((((x1.toUInt32 >>> ((3 : Int32) &&& 31).toUInt32).toInt32) &&& (3 : Int32)) - ((((x1.toUInt32 >>> ((3 : Int32) &&& 31).toUInt32).toInt32) &&& (3 : Int32)) / (3 : Int32)) * (3 : Int32)) - (1 : Int32))))] [(.int (own_tile x0))]))
  refine Go.step (fun _ k => XS.iloadN X8.here hx rfl (hb hby at_66) rfl k) ?_
  show Go _ _ _ _ (T8.setTop (mkF m 67 #[.val (.int x0), .val (.int x1), .val (.ref b1), .val (.int ((x1 &&& (7 : Int32)) - ((x1 &&& (7 : Int32)) / (6 : Int32)) * (6 : Int32))), .val (.int (((((x1.toUInt32 >>> ((3 : Int32) &&& 31).toUInt32).toInt32) &&& (3 : Int32)) - ((((x1.toUInt32 >>> ((3 : Int32) &&& 31).toUInt32).toInt32) &&& (3 : Int32)) / (3 : Int32)) * (3 : Int32)) - (1 : Int32))), .val (.int (ww + (((((x1.toUInt32 >>> ((3 : Int32) &&& 31).toUInt32).toInt32) &&& (3 : Int32)) - ((((x1.toUInt32 >>> ((3 : Int32) &&& 31).toUInt32).toInt32) &&& (3 : Int32)) / (3 : Int32)) * (3 : Int32)) - (1 : Int32))))] [(.int x0), (.int (own_tile x0))]))
  refine goS X8 hx hZ hown (hw _ (List.mem_of_getElem? (i := 5) rfl)) (hw _ (List.mem_of_getElem? (i := 6) rfl)) (hw _ (List.mem_of_getElem? (i := 7) rfl)) (hw _ (List.mem_of_getElem? (i := 8) rfl)) (by decide) (rm2 l Z a0 hw [] x0 _) e8 (by rw [hml]; rfl) [(.int x0)] [(.int (own_tile x0))] rfl pd2 rfl rfl 1 rfl (hb hby at_67) (by decide) (by decide) (by decide) (by decide) fun T9 L9 v9 q9 X9 => ?_
  obtain ⟨rfl, e9, rfl⟩ := q9
  rw [List.append_nil] at X9
  show Go _ _ _ _ (T9.setTop (mkF m 70 #[.val (.int x0), .val (.int x1), .val (.ref b1), .val (.int ((x1 &&& (7 : Int32)) - ((x1 &&& (7 : Int32)) / (6 : Int32)) * (6 : Int32))), .val (.int (((((x1.toUInt32 >>> ((3 : Int32) &&& 31).toUInt32).toInt32) &&& (3 : Int32)) - ((((x1.toUInt32 >>> ((3 : Int32) &&& 31).toUInt32).toInt32) &&& (3 : Int32)) / (3 : Int32)) * (3 : Int32)) - (1 : Int32))), .val (.int (ww + (((((x1.toUInt32 >>> ((3 : Int32) &&& 31).toUInt32).toInt32) &&& (3 : Int32)) - ((((x1.toUInt32 >>> ((3 : Int32) &&& 31).toUInt32).toInt32) &&& (3 : Int32)) / (3 : Int32)) * (3 : Int32)) - (1 : Int32))))] [(.int (own_tile x0)), (.int (own_tile x0))]))
  refine Go.step (fun _ k => XS.icmpNo X9.here hx rfl (hb hby at_70) rfl (teq rfl).2 k) ?_
  show Go _ _ _ _ (T9.setTop (mkF m 73 #[.val (.int x0), .val (.int x1), .val (.ref b1), .val (.int ((x1 &&& (7 : Int32)) - ((x1 &&& (7 : Int32)) / (6 : Int32)) * (6 : Int32))), .val (.int (((((x1.toUInt32 >>> ((3 : Int32) &&& 31).toUInt32).toInt32) &&& (3 : Int32)) - ((((x1.toUInt32 >>> ((3 : Int32) &&& 31).toUInt32).toInt32) &&& (3 : Int32)) / (3 : Int32)) * (3 : Int32)) - (1 : Int32))), .val (.int (ww + (((((x1.toUInt32 >>> ((3 : Int32) &&& 31).toUInt32).toInt32) &&& (3 : Int32)) - ((((x1.toUInt32 >>> ((3 : Int32) &&& 31).toUInt32).toInt32) &&& (3 : Int32)) / (3 : Int32)) * (3 : Int32)) - (1 : Int32))))] []))
  refine Go.step (fun _ k => XS.iload X9.here hx rfl (hb hby at_73) rfl k) ?_
  show Go _ _ _ _ (T9.setTop (mkF m 75 #[.val (.int x0), .val (.int x1), .val (.ref b1), .val (.int ((x1 &&& (7 : Int32)) - ((x1 &&& (7 : Int32)) / (6 : Int32)) * (6 : Int32))), .val (.int (((((x1.toUInt32 >>> ((3 : Int32) &&& 31).toUInt32).toInt32) &&& (3 : Int32)) - ((((x1.toUInt32 >>> ((3 : Int32) &&& 31).toUInt32).toInt32) &&& (3 : Int32)) / (3 : Int32)) * (3 : Int32)) - (1 : Int32))), .val (.int (ww + (((((x1.toUInt32 >>> ((3 : Int32) &&& 31).toUInt32).toInt32) &&& (3 : Int32)) - ((((x1.toUInt32 >>> ((3 : Int32) &&& 31).toUInt32).toInt32) &&& (3 : Int32)) / (3 : Int32)) * (3 : Int32)) - (1 : Int32))))] [(.int (ww + (((((x1.toUInt32 >>> ((3 : Int32) &&& 31).toUInt32).toInt32) &&& (3 : Int32)) - ((((x1.toUInt32 >>> ((3 : Int32) &&& 31).toUInt32).toInt32) &&& (3 : Int32)) / (3 : Int32)) * (3 : Int32)) - (1 : Int32))))]))
  refine goS X9 hx hZ hown (hw _ (List.mem_of_getElem? (i := 1) rfl)) (hw _ (List.mem_of_getElem? (i := 2) rfl)) (hw _ (List.mem_of_getElem? (i := 3) rfl)) (hw _ (List.mem_of_getElem? (i := 4) rfl)) (by decide) (rm1 l Z a0 hw [] (ww + (((((x1.toUInt32 >>> ((3 : Int32) &&& 31).toUInt32).toInt32) &&& (3 : Int32)) - ((((x1.toUInt32 >>> ((3 : Int32) &&& 31).toUInt32).toInt32) &&& (3 : Int32)) / (3 : Int32)) * (3 : Int32)) - (1 : Int32))) _) e9 (by rw [hml]; rfl) [(.int (ww + (((((x1.toUInt32 >>> ((3 : Int32) &&& 31).toUInt32).toInt32) &&& (3 : Int32)) - ((((x1.toUInt32 >>> ((3 : Int32) &&& 31).toUInt32).toInt32) &&& (3 : Int32)) / (3 : Int32)) * (3 : Int32)) - (1 : Int32))))] [] rfl pd1 rfl rfl 0 rfl (hb hby at_75) (by decide) (by decide) (by decide) (by decide) fun T10 L10 v10 q10 X10 => ?_
  obtain ⟨rfl, e10, rfl⟩ := q10
  rw [List.append_nil] at X10
  show Go _ _ _ _ (T10.setTop (mkF m 78 #[.val (.int x0), .val (.int x1), .val (.ref b1), .val (.int ((x1 &&& (7 : Int32)) - ((x1 &&& (7 : Int32)) / (6 : Int32)) * (6 : Int32))), .val (.int (((((x1.toUInt32 >>> ((3 : Int32) &&& 31).toUInt32).toInt32) &&& (3 : Int32)) - ((((x1.toUInt32 >>> ((3 : Int32) &&& 31).toUInt32).toInt32) &&& (3 : Int32)) / (3 : Int32)) * (3 : Int32)) - (1 : Int32))), .val (.int (ww + (((((x1.toUInt32 >>> ((3 : Int32) &&& 31).toUInt32).toInt32) &&& (3 : Int32)) - ((((x1.toUInt32 >>> ((3 : Int32) &&& 31).toUInt32).toInt32) &&& (3 : Int32)) / (3 : Int32)) * (3 : Int32)) - (1 : Int32))))] [(.int (own_tile (ww + (((((x1.toUInt32 >>> ((3 : Int32) &&& 31).toUInt32).toInt32) &&& (3 : Int32)) - ((((x1.toUInt32 >>> ((3 : Int32) &&& 31).toUInt32).toInt32) &&& (3 : Int32)) / (3 : Int32)) * (3 : Int32)) - (1 : Int32)))))]))
  refine Go.step (fun _ k => XS.iload X10.here hx rfl (hb hby at_78) rfl k) ?_
  show Go _ _ _ _ (T10.setTop (mkF m 80 #[.val (.int x0), .val (.int x1), .val (.ref b1), .val (.int ((x1 &&& (7 : Int32)) - ((x1 &&& (7 : Int32)) / (6 : Int32)) * (6 : Int32))), .val (.int (((((x1.toUInt32 >>> ((3 : Int32) &&& 31).toUInt32).toInt32) &&& (3 : Int32)) - ((((x1.toUInt32 >>> ((3 : Int32) &&& 31).toUInt32).toInt32) &&& (3 : Int32)) / (3 : Int32)) * (3 : Int32)) - (1 : Int32))), .val (.int (ww + (((((x1.toUInt32 >>> ((3 : Int32) &&& 31).toUInt32).toInt32) &&& (3 : Int32)) - ((((x1.toUInt32 >>> ((3 : Int32) &&& 31).toUInt32).toInt32) &&& (3 : Int32)) / (3 : Int32)) * (3 : Int32)) - (1 : Int32))))] [(.int (ww + (((((x1.toUInt32 >>> ((3 : Int32) &&& 31).toUInt32).toInt32) &&& (3 : Int32)) - ((((x1.toUInt32 >>> ((3 : Int32) &&& 31).toUInt32).toInt32) &&& (3 : Int32)) / (3 : Int32)) * (3 : Int32)) - (1 : Int32)))), (.int (own_tile (ww + (((((x1.toUInt32 >>> ((3 : Int32) &&& 31).toUInt32).toInt32) &&& (3 : Int32)) - ((((x1.toUInt32 >>> ((3 : Int32) &&& 31).toUInt32).toInt32) &&& (3 : Int32)) / (3 : Int32)) * (3 : Int32)) - (1 : Int32)))))]))
  refine goS X10 hx hZ hown (hw _ (List.mem_of_getElem? (i := 5) rfl)) (hw _ (List.mem_of_getElem? (i := 6) rfl)) (hw _ (List.mem_of_getElem? (i := 7) rfl)) (hw _ (List.mem_of_getElem? (i := 8) rfl)) (by decide) (rm2 l Z a0 hw [] (ww + (((((x1.toUInt32 >>> ((3 : Int32) &&& 31).toUInt32).toInt32) &&& (3 : Int32)) - ((((x1.toUInt32 >>> ((3 : Int32) &&& 31).toUInt32).toInt32) &&& (3 : Int32)) / (3 : Int32)) * (3 : Int32)) - (1 : Int32))) _) e10 (by rw [hml]; rfl) [(.int (ww + (((((x1.toUInt32 >>> ((3 : Int32) &&& 31).toUInt32).toInt32) &&& (3 : Int32)) - ((((x1.toUInt32 >>> ((3 : Int32) &&& 31).toUInt32).toInt32) &&& (3 : Int32)) / (3 : Int32)) * (3 : Int32)) - (1 : Int32))))] [(.int (own_tile (ww + (((((x1.toUInt32 >>> ((3 : Int32) &&& 31).toUInt32).toInt32) &&& (3 : Int32)) - ((((x1.toUInt32 >>> ((3 : Int32) &&& 31).toUInt32).toInt32) &&& (3 : Int32)) / (3 : Int32)) * (3 : Int32)) - (1 : Int32)))))] rfl pd2 rfl rfl 1 rfl (hb hby at_80) (by decide) (by decide) (by decide) (by decide) fun T11 L11 v11 q11 X11 => ?_
  obtain ⟨rfl, e11, rfl⟩ := q11
  rw [List.append_nil] at X11
  show Go _ _ _ _ (T11.setTop (mkF m 83 #[.val (.int x0), .val (.int x1), .val (.ref b1), .val (.int ((x1 &&& (7 : Int32)) - ((x1 &&& (7 : Int32)) / (6 : Int32)) * (6 : Int32))), .val (.int (((((x1.toUInt32 >>> ((3 : Int32) &&& 31).toUInt32).toInt32) &&& (3 : Int32)) - ((((x1.toUInt32 >>> ((3 : Int32) &&& 31).toUInt32).toInt32) &&& (3 : Int32)) / (3 : Int32)) * (3 : Int32)) - (1 : Int32))), .val (.int (ww + (((((x1.toUInt32 >>> ((3 : Int32) &&& 31).toUInt32).toInt32) &&& (3 : Int32)) - ((((x1.toUInt32 >>> ((3 : Int32) &&& 31).toUInt32).toInt32) &&& (3 : Int32)) / (3 : Int32)) * (3 : Int32)) - (1 : Int32))))] [(.int (own_tile (ww + (((((x1.toUInt32 >>> ((3 : Int32) &&& 31).toUInt32).toInt32) &&& (3 : Int32)) - ((((x1.toUInt32 >>> ((3 : Int32) &&& 31).toUInt32).toInt32) &&& (3 : Int32)) / (3 : Int32)) * (3 : Int32)) - (1 : Int32))))), (.int (own_tile (ww + (((((x1.toUInt32 >>> ((3 : Int32) &&& 31).toUInt32).toInt32) &&& (3 : Int32)) - ((((x1.toUInt32 >>> ((3 : Int32) &&& 31).toUInt32).toInt32) &&& (3 : Int32)) / (3 : Int32)) * (3 : Int32)) - (1 : Int32)))))]))
  refine Go.step (fun _ k => XS.icmpNo X11.here hx rfl (hb hby at_83) rfl (teq rfl).2 k) ?_
  show Go _ _ _ _ (T11.setTop (mkF m 86 #[.val (.int x0), .val (.int x1), .val (.ref b1), .val (.int ((x1 &&& (7 : Int32)) - ((x1 &&& (7 : Int32)) / (6 : Int32)) * (6 : Int32))), .val (.int (((((x1.toUInt32 >>> ((3 : Int32) &&& 31).toUInt32).toInt32) &&& (3 : Int32)) - ((((x1.toUInt32 >>> ((3 : Int32) &&& 31).toUInt32).toInt32) &&& (3 : Int32)) / (3 : Int32)) * (3 : Int32)) - (1 : Int32))), .val (.int (ww + (((((x1.toUInt32 >>> ((3 : Int32) &&& 31).toUInt32).toInt32) &&& (3 : Int32)) - ((((x1.toUInt32 >>> ((3 : Int32) &&& 31).toUInt32).toInt32) &&& (3 : Int32)) / (3 : Int32)) * (3 : Int32)) - (1 : Int32))))] []))
  refine Go.step (fun _ k => XS.iconst X11.here hx rfl (hb hby at_86) k) ?_
  show Go _ _ _ _ (T11.setTop (mkF m 87 #[.val (.int x0), .val (.int x1), .val (.ref b1), .val (.int ((x1 &&& (7 : Int32)) - ((x1 &&& (7 : Int32)) / (6 : Int32)) * (6 : Int32))), .val (.int (((((x1.toUInt32 >>> ((3 : Int32) &&& 31).toUInt32).toInt32) &&& (3 : Int32)) - ((((x1.toUInt32 >>> ((3 : Int32) &&& 31).toUInt32).toInt32) &&& (3 : Int32)) / (3 : Int32)) * (3 : Int32)) - (1 : Int32))), .val (.int (ww + (((((x1.toUInt32 >>> ((3 : Int32) &&& 31).toUInt32).toInt32) &&& (3 : Int32)) - ((((x1.toUInt32 >>> ((3 : Int32) &&& 31).toUInt32).toInt32) &&& (3 : Int32)) / (3 : Int32)) * (3 : Int32)) - (1 : Int32))))] [(.int (1 : Int32))]))
  refine Go.step (fun _ k => XS.goto X11.here hx rfl (pc0 := 87) (pc' := 91) rfl (hb hby at_87) (by decide) (by decide) k) ?_
  show Go _ _ _ _ (T11.setTop (mkF m 91 #[.val (.int x0), .val (.int x1), .val (.ref b1), .val (.int ((x1 &&& (7 : Int32)) - ((x1 &&& (7 : Int32)) / (6 : Int32)) * (6 : Int32))), .val (.int (((((x1.toUInt32 >>> ((3 : Int32) &&& 31).toUInt32).toInt32) &&& (3 : Int32)) - ((((x1.toUInt32 >>> ((3 : Int32) &&& 31).toUInt32).toInt32) &&& (3 : Int32)) / (3 : Int32)) * (3 : Int32)) - (1 : Int32))), .val (.int (ww + (((((x1.toUInt32 >>> ((3 : Int32) &&& 31).toUInt32).toInt32) &&& (3 : Int32)) - ((((x1.toUInt32 >>> ((3 : Int32) &&& 31).toUInt32).toInt32) &&& (3 : Int32)) / (3 : Int32)) * (3 : Int32)) - (1 : Int32))))] [(.int (1 : Int32))]))
  exact leafN X11 hx (t := .boolean) hret (by simp) hlk (w := (1 : Int32)) rfl (hb hby at_91) ⟨rfl, NF7⟩ (by decide) (by decide)
set_option maxRecDepth 65536 in
set_option maxHeartbeats 40000000 in
theorem comes_1 {Post : Tables → Env → Array Value → State → Outcome → State → Prop} (hpost : ∀ tb e args s v u, (limb_1_1.after args s (.returned v) u = true ∧ limb_1_2.after args s (.returned v) u = true ∧ True) → FrameEnd s (.returned v) u (Jvm.fieldLocs frame_1_writes args s ++ Jvm.arrayLocs frame_1_arrays args s ++ Jvm.staticLocs frame_1_statics s) 16 128 → Post tb e args s (.returned v) u) :
    ArmFor flags0 classFile x code maxLocals ret World_1 tables_1 room_1 Calls_1 rest_1 Pre_1 Post := by
  intro l hfl _ _ p e ha hc hk s m args below hf hA hF happ hP
  obtain ⟨hcalls, hrest, hpre⟩ := hP
  obtain ⟨-, -, -, hnamed, -, -, -, hat⟩ := (Spec.applies_iff hf).mp happ
  obtain ⟨hg, hn⟩ := and_e (Cond.before_iff.mp (show (Jvm.Cond.and given_1 narrow_1).before args s = true from hpre))
  obtain ⟨hcount, hg0⟩ := and_e hg
  obtain ⟨ha0, hg1⟩ := and_e hg0
  have ha1 := hg1
  obtain ⟨w0, w1, rfl⟩ : ∃ w0 w1 : Value, args = #[w0, w1] := by
    have hs : args.size = 2 := by simpa [Cond.value, given_1] using hcount
    obtain ⟨L⟩ := args
    match L, hs with
    | [w0, w1], _ => exact ⟨w0, w1, rfl⟩
  have hw := fun d (hd : d ∈ tables_1) => atoms_spec (ws := Jvm.Cond.code x code maxLocals ret :: tables_1) hat d (List.mem_cons_of_mem _ hd)
  obtain ⟨i0, ei0⟩ := is_v ha0
  obtain rfl : w0 = (.int i0) := Option.some.inj ei0
  obtain ⟨i1, ei1⟩ := is_v ha1
  obtain rfl : w1 = (.int i1) := Option.some.inj ei1
  obtain ⟨n, o, h1, h2, h3, _, L, rfl, ⟨rfl, N⟩, hq⟩ := rm0 l s _ hw tables_1 i0 i1 s.heap p e ha hc hk s m _ below hf ((Spec.applies_iff_loose hf).mp happ).1 ⟨rfl, State.Warmed39.refl s, rfl⟩ trivial
  refine ⟨n, _, h1, h2, h3, hpost _ _ _ _ _ _ ⟨Cond.after_iff.mpr rfl, Cond.after_iff.mpr (eq_i res_at (Term.int_eval (1)) rfl), trivial⟩ ⟨hq.1, hq.2.1, (hq.2.2.sift fun y hy => Or.inr (N y hy)).mono (by decide) (by decide)⟩⟩
theorem main_1_1 : Claimed_1_1 := comes_1 fun _ _ _ _ _ _ h hF => ⟨h.1, hF⟩
theorem main_1_2 : Claimed_1_2 := comes_1 fun _ _ _ _ _ _ h hF => ⟨h.2.1, hF⟩
end Jvm.Pilot.@@N@@
namespace Jvm.Pilot.@@N@@
open Jvm Jvm.ClassFile Sem Op Lib Jvm.Free Jvm.Stand Jvm.Pilot.@@N@@.Jvm.D
/-! MADE BY PROGRAM (witnessworld.py) out of the Statement's table words and the real class files: 9 classes; the members and pool entries that the words name. The judged class is class 1, her method 1. -/
namespace start1
open Jvm.ClassFile
def u (s : String) : CpInfo := .utf8 (stringToUtf16 s)
/-- a pool by its gaps: so many unusable entries, then the entry; so many at the end -/
def gap : Nat → List CpInfo → List CpInfo
  | 0, r => r
  | n + 1, r => .unusable :: gap n r
def poolList (es : List (Nat × CpInfo)) (last : Nat) : List CpInfo := es.foldr (fun e r => gap e.1 (e.2 :: r)) (gap last [])
def pool (es : List (Nat × CpInfo)) (last : Nat) : Array CpInfo := ⟨poolList es last⟩
def fileOf (pool : Array CpInfo) (this : Nat) (attrs : Array Attribute := #[]) (ms : Array MethodInfo := #[]) (fl : Nat := 33) (sup : Nat := 0) (ifs : Array Nat := #[]) (fds : Array FieldInfo := #[]) : ClassFile where
  minorVersion := 0
  majorVersion := 65
  constantPool := pool
  accessFlags := fl
  thisClass := this
  superClass := sup
  interfaces := ifs
  fields := fds
  methods := ms
  attributes := attrs
def plain (name : String) (sup : Option ClassId) : Class where
  name := name
  kind := .ordinary
  loader := none
  accessFlags := 33
  super := sup
  interfaces := #[]
  cf := none
  fields := #[]
  methods := #[]
  instanceTypes := #[]
  staticTypes := #[]
  resolved := #[]
  callSites := []
  init := .initialized
  statics := none
  mirror := none

def pool0 : Array CpInfo := pool [(5, u "<init>"), (0, u "()V"), (1, .class_ 10), (1, u "java/lang/Object")] 113

def k0m0 : Method := { name := "<init>", desc := "()V", sig := { parameters := [], returnType := none }, accessFlags := 1, code := none }
/-- java/lang/Object -/
def k0 : Class := { plain "java/lang/Object" none with
  accessFlags := 33
  interfaces := #[]
  cf := some (fileOf pool0 8 #[] #[{ accessFlags := 1, nameIndex := 5, descriptorIndex := 6, attributes := #[] }] 33 0 #[] #[])
  fields := #[]
  methods := #[k0m0]
  instanceTypes := #[]
  staticTypes := #[]
  resolved := Array.replicate 124 none
  statics := none }

def pool1 : Array CpInfo := pool [(2, .class_ 4), (1, u "java/lang/Object"), (0, u "<init>"), (0, u "()V"), (0, .methodref 8 9), (0, .class_ 10), (0, .nameAndType 11 12), (0, u "tesserae/link/LinkBoard"), (0, u "isTile"), (0, u "(I)Z"), (0, .methodref 14 15), (0, .class_ 16), (0, .nameAndType 17 12), (0, u "tesserae/link/LinkBoardIsTilePinLaw"), (0, u "reference"), (0, .long 48), (1, .long 10), (3, u "law"), (0, u "(II)Z")] 5

def k1m0 : Method := { name := "<init>", desc := "()V", sig := { parameters := [], returnType := none }, accessFlags := 1, code := none }
def k1c1 : Code := { maxStack := 4, maxLocals := 6, code := code, exceptionTable := #[], attributes := #[] }
def k1m1 : Method := { name := "law", desc := "(II)Z", sig := { parameters := [.int, .int], returnType := some .boolean }, accessFlags := 9, code := some k1c1 }
def k1c2 : Code := { maxStack := 4, maxLocals := 6, code := method_3_code, exceptionTable := #[], attributes := #[] }
def k1m2 : Method := { name := "reference", desc := "(I)Z", sig := { parameters := [.int], returnType := some .boolean }, accessFlags := 10, code := some k1c2 }
/-- tesserae/link/LinkBoardIsTilePinLaw -/
def k1 : Class := { plain "tesserae/link/LinkBoardIsTilePinLaw" (some 0) with
  accessFlags := 49
  interfaces := #[]
  cf := some (fileOf pool1 14 #[] #[{ accessFlags := 1, nameIndex := 5, descriptorIndex := 6, attributes := #[] }, { accessFlags := 9, nameIndex := 24, descriptorIndex := 25, attributes := #[] }, { accessFlags := 10, nameIndex := 17, descriptorIndex := 12, attributes := #[] }] 49 2 #[] #[])
  fields := #[]
  methods := #[k1m0, k1m1, k1m2]
  instanceTypes := #[]
  staticTypes := #[]
  resolved := Array.replicate 31 none
  statics := none }

def pool2 : Array CpInfo := pool [(2, .class_ 4), (1, u "java/lang/Object"), (3, .class_ 10), (1, u "tesserae/link/LinkBoard"), (0, u "width"), (0, u "I"), (2, u "height"), (2, u "cells"), (0, u "[C"), (52, u "isTile"), (0, u "(I)Z"), (66, u "MAX_SIDE"), (2, u "EMPTY"), (0, u "C"), (1, u "MAX_TURNS")] 13

def k2c0 : Code := { maxStack := 2, maxLocals := 1, code := prog_9_method_3_code, exceptionTable := #[], attributes := #[] }
def k2m0 : Method := { name := "isTile", desc := "(I)Z", sig := { parameters := [.int], returnType := some .boolean }, accessFlags := 9, code := some k2c0 }
/-- tesserae/link/LinkBoard -/
def k2 : Class := { plain "tesserae/link/LinkBoard" (some 0) with
  accessFlags := 49
  interfaces := #[]
  cf := some (fileOf pool2 8 #[] #[{ accessFlags := 9, nameIndex := 72, descriptorIndex := 73, attributes := #[] }] 49 2 #[] #[{ accessFlags := 25, nameIndex := 140, descriptorIndex := 12, attributes := #[] }, { accessFlags := 25, nameIndex := 143, descriptorIndex := 144, attributes := #[] }, { accessFlags := 25, nameIndex := 146, descriptorIndex := 12, attributes := #[] }, { accessFlags := 18, nameIndex := 11, descriptorIndex := 12, attributes := #[] }, { accessFlags := 18, nameIndex := 15, descriptorIndex := 12, attributes := #[] }, { accessFlags := 18, nameIndex := 18, descriptorIndex := 19, attributes := #[] }])
  fields := #[{ name := "MAX_SIDE", type := .int, accessFlags := 25, slot := 0, constantValue := 0 }, { name := "EMPTY", type := .char, accessFlags := 25, slot := 1, constantValue := 0 }, { name := "MAX_TURNS", type := .int, accessFlags := 25, slot := 2, constantValue := 0 }, { name := "width", type := .int, accessFlags := 18, slot := 0, constantValue := 0 }, { name := "height", type := .int, accessFlags := 18, slot := 1, constantValue := 0 }, { name := "cells", type := (.array .char), accessFlags := 18, slot := 2, constantValue := 0 }]
  methods := #[k2m0]
  instanceTypes := #[.int, .int, (.array .char)]
  staticTypes := #[.int, .char, .int]
  resolved := Array.replicate 160 none
  statics := none }

def pool3 : Array CpInfo := pool [(1, u "java/lang/Cloneable"), (0, .class_ 1), (0, u "java/lang/Object"), (0, .class_ 3)] 3

/-- java/lang/Cloneable -/
def k3 : Class := { plain "java/lang/Cloneable" (some 0) with
  accessFlags := 1537
  interfaces := #[]
  cf := some (fileOf pool3 2 #[] #[] 1537 4 #[] #[])
  fields := #[]
  methods := #[]
  instanceTypes := #[]
  staticTypes := #[]
  resolved := Array.replicate 8 none
  statics := none }

def pool4 : Array CpInfo := pool [(1, u "java/io/Serializable"), (0, .class_ 1), (0, u "java/lang/Object"), (0, .class_ 3)] 3

/-- java/io/Serializable -/
def k4 : Class := { plain "java/io/Serializable" (some 0) with
  accessFlags := 1537
  interfaces := #[]
  cf := some (fileOf pool4 2 #[] #[] 1537 4 #[] #[])
  fields := #[]
  methods := #[]
  instanceTypes := #[]
  staticTypes := #[]
  resolved := Array.replicate 8 none
  statics := none }

/-- the primitive byte -/
def k5 : Class := { plain "byte" none with kind := .primitive 'B', accessFlags := 0x411 }
/-- [B -/
def k6 : Class := { plain "[B" (some 0) with kind := .array 5 .byte, interfaces := #[3, 4], accessFlags := 1041 }

/-- the primitive int -/
def k7 : Class := { plain "int" none with kind := .primitive 'I', accessFlags := 0x411 }
/-- [I -/
def k8 : Class := { plain "[I" (some 0) with kind := .array 7 .int, interfaces := #[3, 4], accessFlags := 1041 }

def heap : Heap := #[]
def classes : Array Class := #[k0, k1, k2, k3, k4, k5, k6, k7, k8]
def interned : List (Array UInt16 × Addr) := []
def slotsUsed : Nat := 0
def theMethod : MethodId := ⟨1, 1⟩
def args0 : Array Value := #[.int 5, .int 6]
def aboutOver (below : List Frame) : State where
  vm := { classes := classes, interned := interned.toArray }
  heap := heap
  slotsUsed := slotsUsed
  threads := #[{ frames := .invoking theMethod args0 :: below }]
def below0 : List Frame := [.native { method := ⟨0, 0⟩, args := #[] }]
def about1 : State := aboutOver below0
def p0 : Program := .bare "" "" ""
def e0 : Env := launch0.env 0 0 0
theorem w_frames : about1.frames = Frame.invoking theMethod args0 :: below0 := rfl
set_option maxRecDepth 65536 in
theorem w_args : argsFit about1.vm theMethod args0 = true := by decide +kernel
set_option maxRecDepth 65536 in
theorem w_heap : heapFits about1 = true := by decide +kernel
set_option maxRecDepth 65536 in
theorem w_runnable : about1.curStatus? = some .runnable := by decide +kernel
set_option maxRecDepth 65536 in
theorem w_alone : about1.alone = true := by decide +kernel
set_option maxRecDepth 65536 in
theorem w_named : about1.methodNamed? x = some theMethod := by decide +kernel
set_option maxRecDepth 65536 in
theorem w_hears : about1.hears theMethod below0 = true := by decide +kernel
set_option maxRecDepth 65536 in
theorem w_ripe : about1.ripe theMethod args0 below0 = true := by decide +kernel
theorem w_running : about1.status = .running := rfl
set_option maxRecDepth 65536 in
theorem w_room : about1.hasRoom e0.platform room_1 = true :=
  launch0.hasRoom_least _ room_1 (by decide +kernel) (by decide +kernel) (by decide +kernel) (by decide +kernel) (by decide +kernel) (by decide +kernel)
theorem allAtoms_all (ts : List Jvm.Cond) (a : Array Jvm.Value) (st : Jvm.State) : (allAtoms ts).before a st = ts.all (fun c => c.before a st) := by
  induction ts with
  | nil => rfl
  | cons c t ih =>
    show (Jvm.Cond.and c (allAtoms t)).before a st = _
    rw [Jvm.Cond.before_and, ih, List.all_cons]
def words1 : List Jvm.Cond := Jvm.Cond.code x code maxLocals ret :: tables_1
/-- a 'code' word, met by the world's own term for the bytes: nothing is compared byte by byte -/
theorem code_word {y : MethodName} {bytes : ByteArray} {mx : Nat} {rt : Option FieldType} {a : Array Value} {s : State} {m : MethodId} {meth : Method} {c : Code} (h1 : s.methodNamed? y = some m) (h2 : s.vm.method? m = some meth) (h3 : meth.code = some c) (h4 : c.code = bytes)
    (h5 : (c.maxLocals == mx && c.exceptionTable.isEmpty && decide (c.maxStack ≤ mostOperands) && decide (meth.sig.returnType = rt) && !meth.locks && decide (parseMethodDescriptor y.desc = some meth.sig)) = true) : (Jvm.Cond.code y bytes mx rt).before a s = true := by
  simp only [Bool.and_eq_true, beq_iff_eq, Bool.not_eq_true', decide_eq_true_eq] at h5
  obtain ⟨⟨⟨⟨⟨g1, g2⟩, g3⟩, g4⟩, g5⟩, g6⟩ := h5
  simp [Cond.before, Cond.holds, Cond.value, h1, h2, h3, h4, g1, g2, g3, g4, g5, g6]
def isCode : Jvm.Cond → Bool
  | .code _ _ _ _ => true
  | _ => false
theorem all_split {L : List Jvm.Cond} {P : Jvm.Cond → Bool} (h1 : L.all (fun c => isCode c || P c) = true) (h2 : ∀ c ∈ L.filter isCode, P c = true) : L.all P = true := by
  refine List.all_eq_true.mpr fun c hc => ?_
  have h := List.all_eq_true.mp h1 c hc
  rcases Bool.eq_false_or_eq_true (isCode c) with hi | hi
  · exact h2 c (List.mem_filter.mpr ⟨hc, hi⟩)
  · simpa [hi] using h
set_option maxRecDepth 65536 in
theorem w_c0 : (Jvm.Cond.code x code maxLocals ret).before args0 about1 = true := code_word (m := ⟨1, 1⟩) (meth := k1m1) (c := k1c1) (by decide +kernel) rfl rfl rfl (by decide +kernel)
set_option maxRecDepth 65536 in
theorem w_c1 : (Jvm.Cond.code ({ cls := "tesserae/link/LinkBoard", name := "isTile", desc := "(I)Z" } : Jvm.MethodName) prog_9_method_3_code (1 : Nat) (Option.some Jvm.ClassFile.FieldType.boolean)).before args0 about1 = true := code_word (m := ⟨2, 0⟩) (meth := k2m0) (c := k2c0) (by decide +kernel) rfl rfl rfl (by decide +kernel)
set_option maxRecDepth 65536 in
theorem w_c2 : (Jvm.Cond.code ({ cls := "tesserae/link/LinkBoardIsTilePinLaw", name := "reference", desc := "(I)Z" } : Jvm.MethodName) method_3_code (6 : Nat) (Option.some Jvm.ClassFile.FieldType.boolean)).before args0 about1 = true := code_word (m := ⟨1, 2⟩) (meth := k1m2) (c := k1c2) (by decide +kernel) rfl rfl rfl (by decide +kernel)
def codes1 : List Jvm.Cond := [Jvm.Cond.code x code maxLocals ret, Jvm.Cond.code ({ cls := "tesserae/link/LinkBoard", name := "isTile", desc := "(I)Z" } : Jvm.MethodName) prog_9_method_3_code (1 : Nat) (Option.some Jvm.ClassFile.FieldType.boolean), Jvm.Cond.code ({ cls := "tesserae/link/LinkBoardIsTilePinLaw", name := "reference", desc := "(I)Z" } : Jvm.MethodName) method_3_code (6 : Nat) (Option.some Jvm.ClassFile.FieldType.boolean)]
set_option maxRecDepth 65536 in
theorem codes_eq : words1.filter isCode = codes1 := rfl
theorem w_codes : ∀ c ∈ words1.filter isCode, c.before args0 about1 = true := by
  rw [codes_eq]
  intro c hc
  simp only [codes1, List.mem_cons, List.not_mem_nil, or_false] at hc
  rcases hc with rfl | rfl | rfl
  · exact w_c0
  · exact w_c1
  · exact w_c2
set_option maxRecDepth 65536 in
theorem w_t1 : words1.all (fun c => isCode c || c.before args0 about1) = true := by decide +kernel
theorem w_tables : (allAtoms (Jvm.Cond.code x code maxLocals ret :: tables_1)).before args0 about1 = true := by
  rw [allAtoms_all]
  show words1.all (fun c => c.before args0 about1) = true
  refine all_split ?_ w_codes
  rw [w_t1]
set_option maxRecDepth 65536 in
theorem w_case : (Jvm.Cond.and given_1 narrow_1).before args0 about1 = true := by decide +kernel
theorem w_applies : (headSpec (Jvm.Cond.code x code maxLocals ret :: tables_1) room_1).applies x e0.platform about1 = true :=
  (Spec.applies_iff w_frames).mpr ⟨w_running, w_runnable, w_alone, w_named, w_hears, w_ripe, w_room, w_tables⟩
theorem atStart : AtStart classFile x code maxLocals ret World_1 tables_1 room_1 Calls_1 rest_1 Pre_1 launch0 p0 e0 about1 theMethod args0 below0 :=
  ⟨lists_1, trivial, launch0.admits_env _ _ _, launch0.least_env, fairChoices_fair.cas, fairChoices_fair.clock, w_frames, w_args, w_heap, w_applies, trivial, trivial, w_case⟩
end start1
theorem witness_1 : WitnessClaimed_1 := ⟨start1.p0, start1.e0, start1.about1, start1.theMethod, start1.args0, start1.below0, start1.atStart⟩
end Jvm.Pilot.@@N@@
