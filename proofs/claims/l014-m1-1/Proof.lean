import JvmDerived
import JvmDerived.Pilot.@@N@@Statement
import JvmDerived.Pilot.@@N@@Code
set_option linter.unusedVariables false
set_option linter.unusedSimpArgs false
namespace Jvm.OwnKit
open Sem ClassFile Op Lib Jvm.Stand Jvm.Free Jvm.LawKit Jvm.RoadKit
theorem irem_mod (x y : Int32) : x - x / y * y = x % y := by
  have hm : (x % y).toInt = x.toInt - x.toInt.tdiv y.toInt * y.toInt := by
    rw [Int32.toInt_mod, Int.tmod_def, Int.mul_comm]
  have hb := Int32.toInt_lt (x % y)
  have hl := Int32.le_toInt (x % y)
  have e : (x - x / y * y).toInt = (x % y).toInt.bmod (2 ^ 32) := by
    rw [hm, Int32.toInt_sub, Int32.toInt_mul, Int32.toInt_div, Int.sub_bmod_bmod, Int.sub_eq_add_neg, Int.sub_eq_add_neg]
    rw [← Int.add_bmod_bmod, ← Int.add_bmod_bmod (y := -(x.toInt.tdiv y.toInt * y.toInt))]
    congr 2
    rw [← Int.neg_mul, ← Int.neg_mul]
    rw [← Int.bmod_mul_bmod, Int.bmod_neg_bmod, Int.bmod_mul_bmod]
  apply Int32.toInt_inj.mp
  rw [e]
  exact Int.bmod_eq_of_le_mul_two (by omega) (by omega)
/-- what a body's end says -/
def Done (s : State) (below : List Frame) (Q : Option Value → Heap → List Loc → Prop) (C S : Nat) (t : State) (o : Outcome) : Prop :=
  t.status = .running ∧ Ended t below o ∧ ∃ v L, o = .returned v ∧ Q v t.heap L ∧ FrameEnd s o t L C S
/-- from here the run ends as asked -/
def Go (tb : Tables) (e : Env) (below : List Frame) (s : State) (Q : Option Value → Heap → List Loc → Prop) (C S : Nat) (A : State) : Prop :=
  ∃ t o, Steps tb e below A t ∧ Done s below Q C S t o
theorem Go.of {tb : Tables} {e : Env} {below : List Frame} {s : State} {Q : Option Value → Heap → List Loc → Prop} {C S : Nat} {A B : State}
    (g : ∀ t, Steps tb e below B t → Steps tb e below A t) (h : Go tb e below s Q C S B) : Go tb e below s Q C S A := by
  obtain ⟨t, o, h1, h2⟩ := h
  exact ⟨t, o, g t h1, h2⟩
theorem Go.push {tb : Tables} {e : Env} {below : List Frame} {s : State} {Q : Option Value → Heap → List Loc → Prop} {C S : Nat} {T : State} {m : MethodId} {pc pc' : Nat} {Ls : Array Slot} {v : Value} {st : List Value} (hp : pc = pc') (h : Go tb e below s Q C S (T.setTop (mkF m pc' Ls (v :: st)))) : Go tb e below s Q C S (T.setTop (mkF m pc Ls ((some v).toList ++ st))) := hp ▸ h
theorem Go.void {tb : Tables} {e : Env} {below : List Frame} {s : State} {Q : Option Value → Heap → List Loc → Prop} {C S : Nat} {T : State} {m : MethodId} {pc pc' : Nat} {Ls : Array Slot} {st : List Value} (hp : pc = pc') (h : Go tb e below s Q C S (T.setTop (mkF m pc' Ls st))) : Go tb e below s Q C S (T.setTop (mkF m pc Ls ((none : Option Value).toList ++ st))) := hp ▸ h
theorem Go.join {tb : Tables} {e : Env} {below : List Frame} {s : State} {Q : Option Value → Heap → List Loc → Prop} {C S : Nat} {A : State} {α : Type} {P : α → Prop} {F : α → State}
    (h1 : ∀ x, P x → Go tb e below s Q C S (F x)) (h2 : (∀ x, P x → Go tb e below s Q C S (F x)) → Go tb e below s Q C S A) : Go tb e below s Q C S A := h2 h1
section Ret
variable {p : Program} {l : Launch} {e : Env} {R : Room} {s : State} {m : MethodId} {args : Array Value} {below : List Frame} {meth : Method} {c : Code} {T : State} {locs : List Loc} {cells slots : Nat} {Q : Option Value → Heap → List Loc → Prop} {C S : Nat}
theorem Go.retV (X : Stand p l e R s m args below meth c T locs cells slots) (hx : p.tables.exec = Jvm.exec) (hlk : meth.locks = false) {pc : Nat} {Ls : Array Slot} {st : List Value} (hret : meth.sig.returnType = none)
    (hd : decode c.code pc = .ok (.return_, 1)) (hs : st = []) (hc : cells ≤ C) (hn : slots ≤ S) (hq : Q none T.heap locs) : Go p.tables e below s Q C S (T.setTop (mkF m pc Ls st)) := by
  subst hs
  obtain ⟨fs, hr, hrun, hended, hW, hsame⟩ := X.leave (v := none) (fun _ => rfl)
  exact ⟨_, _, X.returnOut hx hret hd hr, hrun, hended, _, _, rfl, hq, ⟨_, rfl⟩, hW, hsame.mono hc hn⟩
theorem Go.retW (X : Stand p l e R s m args below meth c T locs cells slots) (hx : p.tables.exec = Jvm.exec) (hlk : meth.locks = false) {pc : Nat} {Ls : Array Slot} {w : Value} {t : FieldType} {i : Instr} {rest : List Value}
    (hret : meth.sig.returnType = some t) (hn : narrow t w = w)
    (hi : (i = .ireturn ∧ (t = .int ∨ t = .boolean ∨ t = .byte ∨ t = .char ∨ t = .short) ∧ ∃ z, w = .int z) ∨ (i = .lreturn ∧ t = .long ∧ ∃ z, w = .long z) ∨ (i = .dreturn ∧ t = .double ∧ ∃ z, w = .double z) ∨ (i = .freturn ∧ t = .float ∧ ∃ z, w = .float z) ∨ (i = .areturn ∧ t.isReference = true ∧ w.isRef = true))
    (hd : decode c.code pc = .ok (i, 1)) (hc : cells ≤ C) (hsl : slots ≤ S) (hq : Q (some w) T.heap locs) : Go p.tables e below s Q C S (T.setTop (mkF m pc Ls (w :: rest))) := by
  obtain ⟨fs, hr, hrun, hended, hW, hsame⟩ := X.leave (v := some w) (fun h => by rw [hret] at h; cases h)
  exact ⟨_, _, retOut X hx hret hn hi hd hr, hrun, hended, _, _, rfl, hq, ⟨_, rfl⟩, hW, hsame.mono hc hsl⟩
theorem Go.retI (X : Stand p l e R s m args below meth c T locs cells slots) (hx : p.tables.exec = Jvm.exec) (hlk : meth.locks = false) {pc : Nat} {Ls : Array Slot} {z : Int32} {rest : List Value}
    (hret : meth.sig.returnType = some .int) (hd : decode c.code pc = .ok (.ireturn, 1)) (hc : cells ≤ C) (hsl : slots ≤ S) (hq : Q (some (.int z)) T.heap locs) : Go p.tables e below s Q C S (T.setTop (mkF m pc Ls (.int z :: rest))) :=
  Go.retW X hx hlk hret rfl (Or.inl ⟨rfl, Or.inl rfl, _, rfl⟩) hd hc hsl hq
theorem Go.retZ (X : Stand p l e R s m args below meth c T locs cells slots) (hx : p.tables.exec = Jvm.exec) (hlk : meth.locks = false) {pc : Nat} {Ls : Array Slot} {z : Int32} {rest : List Value} {t : FieldType}
    (hret : meth.sig.returnType = some t) (ht : t = .boolean ∨ t = .byte ∨ t = .char ∨ t = .short) (hd : decode c.code pc = .ok (.ireturn, 1)) (hc : cells ≤ C) (hsl : slots ≤ S) (hq : Q (some (.int (nar t z))) T.heap locs) : Go p.tables e below s Q C S (T.setTop (mkF m pc Ls (.int z :: rest))) := by
  obtain ⟨fs, hr, hrun, hended, hW, hsame⟩ := X.leave (v := some (.int (nar t z))) (fun h => by rw [hret] at h; cases h)
  exact ⟨_, _, retN X hx hret ht hd hr, hrun, hended, _, _, rfl, hq, ⟨_, rfl⟩, hW, hsame.mono hc hsl⟩
theorem Go.retL (X : Stand p l e R s m args below meth c T locs cells slots) (hx : p.tables.exec = Jvm.exec) (hlk : meth.locks = false) {pc : Nat} {Ls : Array Slot} {z : Int64} {rest : List Value}
    (hret : meth.sig.returnType = some .long) (hd : decode c.code pc = .ok (.lreturn, 1)) (hc : cells ≤ C) (hsl : slots ≤ S) (hq : Q (some (.long z)) T.heap locs) : Go p.tables e below s Q C S (T.setTop (mkF m pc Ls (.long z :: rest))) :=
  Go.retW X hx hlk hret rfl (Or.inr (Or.inl ⟨rfl, rfl, _, rfl⟩)) hd hc hsl hq
theorem Go.retA (X : Stand p l e R s m args below meth c T locs cells slots) (hx : p.tables.exec = Jvm.exec) (hlk : meth.locks = false) {pc : Nat} {Ls : Array Slot} {w : Value} {rest : List Value} {t : FieldType}
    (hret : meth.sig.returnType = some t) (ht : t.isReference = true) (hw : w.isRef = true) (hd : decode c.code pc = .ok (.areturn, 1)) (hc : cells ≤ C) (hsl : slots ≤ S) (hq : Q (some w) T.heap locs) : Go p.tables e below s Q C S (T.setTop (mkF m pc Ls (w :: rest))) :=
  Go.retW X hx hlk hret (by cases t <;> first | rfl | (simp [FieldType.isReference] at ht)) (Or.inr (Or.inr (Or.inr (Or.inr ⟨rfl, ht, hw⟩)))) hd hc hsl hq
end Ret
/-- the contract of a body, by its walk -/
theorem meet {l : Launch} {Z : State} {y : MethodName} {bytes : ByteArray} {maxL : Nat} {ret : Option FieldType} {ws : List Cond} {rm : Room} {as : Array Value} {Ls : Array Slot} {h0 : Heap} {Q : Option Value → Heap → List Loc → Prop}
    (hpl : plainFor y = true) (ef : ∀ m, entryFrame m as maxL = mkF m 0 Ls [])
    (body : ∀ (p : Program) (e : Env) (s : State) (m : MethodId) (below : List Frame) (meth : Method) (c : Code) (T : State), p.tables.exec = Jvm.exec → c.code = bytes → c.maxLocals = maxL → Z.Warmed39 s.vm → s.vm.findClass y.cls = some m.cls → meth.name = y.name →
      meth.sig.returnType = ret → meth.locks = false → Stand p l e rm s m as below meth c T [] 0 0 → T.heap = h0 → Go p.tables e below s Q rm.cells rm.slots (T.setTop (mkF m 0 Ls []))) :
    MetFree l y (head1 (Cond.code y bytes maxL ret :: ws) rm) (fun a U => a = as ∧ Z.Warmed39 U.vm ∧ U.heap = h0) (fun _ _ _ _ _ => True) (fun _ U o U' => ∃ v L, o = .returned v ∧ Q v U'.heap L ∧ FrameEnd U o U' L rm.cells rm.slots) := by
  refine MetFree.of_bodySF hpl hisR ?_
  intro p e s m args below meth c s₁ Bd hml0 hP hK
  obtain ⟨rfl, hZ, hh⟩ := hP
  obtain ⟨t, o, h1, h2, h3, h4⟩ := body p e s m below meth c s₁ Bd.exec Bd.bytes hml0 hZ (findClass_of_methodNamed Bd.named) (name_of_methodNamed Bd.named Bd.method).1 Bd.returns Bd.notSynchronized (Stand.of_body Bd) (by rw [← hh, Bd.state]; rfl)
  exact ⟨t, o, castTop (ef m) h1, h2, h3, h4⟩
/-- what a callee's contract says -/
abbrev Con (l : Launch) (Z : State) (y : MethodName) (bytes : ByteArray) (maxL : Nat) (ret : Option FieldType) (rm : Room) (as : Array Value) (h0 : Heap) (Q : Option Value → Heap → List Loc → Prop) : Prop :=
  MetFree l y (head1 [Cond.code y bytes maxL ret] rm) (fun a U => a = as ∧ Z.Warmed39 U.vm ∧ U.heap = h0) (fun _ _ _ _ _ => True) (fun _ U o U' => ∃ v L, o = .returned v ∧ Q v U'.heap L ∧ FrameEnd U o U' L rm.cells rm.slots)
section Call
variable {p : Program} {l : Launch} {e : Env} {R : Room} {s : State} {m : MethodId} {args : Array Value} {below : List Frame} {meth : Method} {c : Code} {T : State} {locs : List Loc} {cells slots : Nat} {Q : Option Value → Heap → List Loc → Prop} {C S : Nat} {Z : State} {a0 : Array Value} {h : Heap}
theorem Go.callS (X : Stand p l e R s m args below meth c T locs cells slots) (hx : p.tables.exec = Jvm.exec) (hZ : Z.Warmed39 s.vm) {own : String} {index : Nat} {y : MethodName} {bytes : ByteArray} {maxL : Nat} {ret : Option FieldType} {rm : Room} {Q' : Option Value → Heap → List Loc → Prop}
    (hown : s.vm.findClass own = some m.cls) (w1 : (Cond.methodLink own index y).before a0 Z = true) (w2 : (Cond.static y).before a0 Z = true) (w3 : (Cond.initialized y.cls).before a0 Z = true)
    (w4 : (Cond.code y bytes maxL ret).before a0 Z = true) (hy : y.cls ≠ "java/lang/invoke/MethodHandle" ∧ y.cls ≠ "java/lang/invoke/VarHandle")
    (eT : T.heap = h) {pc : Nat} {Ls : Array Slot} {argsL rest st : List Value} {W : Nat} {ps : List FieldType} (hM : Con l Z y bytes maxL ret rm argsL.toArray h Q') (hd : decode c.code pc = .ok (.invokestatic index, 3))
    (hsz : Ls.size = c.maxLocals) (hst : st = argsL.reverse ++ rest) (hpd : parseMethodDescriptor y.desc = some ⟨ps, ret⟩) (hlen : argsL.length = ps.length) (hW : (rest.map fun v => v.category).sum = W)
    (hf : rm.frames + 1 ≤ R.frames) (hl : W + (maxL + 11) + rm.locals ≤ R.locals) (hc : cells + rm.cells ≤ R.cells) (hn : slots + rm.slots ≤ R.slots)
    (k : ∀ (v : Option Value) (T' : State) (L' : List Loc), Stand p l e R s m args below meth c T' (locs ++ L') (cells + rm.cells) (slots + rm.slots) → Q' v T'.heap L' → Go p.tables e below s Q C S (T'.setTop (mkF m (pc + 3) Ls (v.toList ++ rest)))) :
    Go p.tables e below s Q C S (T.setTop (mkF m pc Ls st)) := by
  obtain ⟨v, _, ⟨T', L', kc, kn⟩, -, X', ⟨Lc, hQ, l3, y3, z3⟩, st⟩ := Jvm.LawKit.callS X hx hown (mvT hZ w1) (mvT hZ w2) (mvT hZ w3) (mvT hZ w4) hy (backOf (W := W) hM hZ w4 w3 hf hl) (g := mkF m pc Ls st) rfl hsz (argsL := argsL) (rest := rest) (lenOf hpd hlen) hst (by show 2 * 0 + _ ≤ _; rw [hW]; omega) hd (fun _ _ => ⟨rfl, eT, hc, hn⟩)
  dsimp only [Pt.U, Pt.locs, Pt.cells, Pt.slots] at X' l3 y3 z3 st hQ
  subst l3 y3 z3
  exact Go.of st (k v T' Lc X' hQ)
theorem Go.callV (X : Stand p l e R s m args below meth c T locs cells slots) (hx : p.tables.exec = Jvm.exec) (hZ : Z.Warmed39 s.vm) {own K : String} {index : Nat} {y z : MethodName} {bytes : ByteArray} {maxL : Nat} {ret : Option FieldType} {rm : Room} {Q' : Option Value → Heap → List Loc → Prop}
    (hown : s.vm.findClass own = some m.cls) (w1 : (Cond.methodLink own index y).before a0 Z = true) (w2 : (Cond.declares y).before a0 Z = true) (nf : NotFace s y) (w5 : (Cond.selects K y z).before a0 Z = true) (w6 : (Cond.instanceMethod z).before a0 Z = true) (w3 : (Cond.initialized z.cls).before a0 Z = true)
    (w4 : (Cond.code z bytes maxL ret).before a0 Z = true) (hy : y.cls ≠ "java/lang/invoke/MethodHandle" ∧ y.cls ≠ "java/lang/invoke/VarHandle")
    (eT : T.heap = h) {pc : Nat} {Ls : Array Slot} {a : Addr} {argsL rest st : List Value} {W : Nat} {ps : List FieldType} {rt : Option FieldType} (E : Exa Z h a K) (hM : Con l Z z bytes maxL ret rm (.ref a :: argsL).toArray h Q') (hd : decode c.code pc = .ok (.invokevirtual index, 3))
    (hsz : Ls.size = c.maxLocals) (hst : st = argsL.reverse ++ .ref a :: rest) (hpd : parseMethodDescriptor y.desc = some ⟨ps, rt⟩) (hlen : argsL.length = ps.length) (hW : (rest.map fun v => v.category).sum = W)
    (hf : rm.frames + 1 ≤ R.frames) (hl : W + (maxL + 11) + rm.locals ≤ R.locals) (hc : cells + rm.cells ≤ R.cells) (hn : slots + rm.slots ≤ R.slots)
    (k : ∀ (v : Option Value) (T' : State) (L' : List Loc), Stand p l e R s m args below meth c T' (locs ++ L') (cells + rm.cells) (slots + rm.slots) → Q' v T'.heap L' → Go p.tables e below s Q C S (T'.setTop (mkF m (pc + 3) Ls (v.toList ++ rest)))) :
    Go p.tables e below s Q C S (T.setTop (mkF m pc Ls st)) := by
  obtain ⟨cq, kq, qa, qb, qc⟩ := isOf hZ eT E
  obtain ⟨v, _, ⟨T', L', kc, kn⟩, -, X', ⟨Lc, hQ, l3, y3, z3⟩, st⟩ := X.virtualBack hx (y := y) (z := z) hown (mvT hZ w1) (mvT hZ w2) nf (mvT hZ w5) (mvT hZ w6) hy (backOf (W := W) hM hZ w4 w3 hf hl) qa qc (g := mkF m pc Ls st) rfl hsz (Steps.refl _) (argsL := argsL) (rest := rest) (lenOf hpd hlen) hst (by show 2 * 0 + _ ≤ _; rw [hW]; omega) hd (fun _ _ => ⟨rfl, eT, hc, hn⟩)
  dsimp only [Pt.U, Pt.locs, Pt.cells, Pt.slots] at X' l3 y3 z3 st hQ
  subst l3 y3 z3
  exact Go.of (fun _ q => st.trans q) (k v T' Lc X' hQ)
end Call
/-- an array of n places, place i holding f i -/
def ArF (Z : State) (h : Heap) (a : Addr) (ty : FieldType) (n : Nat) (f : Nat → Value) : Prop :=
  ∃ cl : Cell, Arr Z h a cl ty ∧ cl.slots.size = n ∧ n < 2 ^ 31 ∧ (∀ i, i < n → cl.slots[i]? = some (f i)) ∧ ∀ i, i < n → fits ty (f i) = true
def upV (f : Nat → Value) (j : Nat) (v : Value) (i : Nat) : Value := if i = j then v else f i
def upI (f : Nat → Int32) (j : Nat) (v : Int32) (i : Nat) : Int32 := if i = j then v else f i
def upJ (f : Nat → Int64) (j : Nat) (v : Int64) (i : Nat) : Int64 := if i = j then v else f i
def upD (f : Nat → UInt64) (j : Nat) (v : UInt64) (i : Nat) : UInt64 := if i = j then v else f i
section ArF
variable {Z : State} {h h' : Heap} {a b : Addr} {ty : FieldType} {n : Nat} {f : Nat → Value} {sl : Nat} {v : Value} {ws : List Addr}
theorem ArF.lt (F : ArF Z h a ty n f) : a < h.size := by obtain ⟨c, A, -⟩ := F; exact A.lt
theorem ArF.ext (F : ArF Z h a ty n f) (E : Ext h h') : ArF Z h' a ty n f := by obtain ⟨c, A, r⟩ := F; exact ⟨c, A.ext E, r⟩
theorem ArF.other (F : ArF Z h b ty n f) (W : Wr h h' a sl v) (q : b ≠ a) : ArF Z h' b ty n f := by obtain ⟨c, A, r⟩ := F; exact ⟨c, A.other W q, r⟩
theorem ArF.keep (F : ArF Z h a ty n f) (K : Keep h h' ws) (q : a ∉ ws) : ArF Z h' a ty n f := by obtain ⟨c, A, r⟩ := F; exact ⟨c, ⟨K.2.1 a c A.1 q, A.2⟩, r⟩
theorem ArF.len (F : ArF Z h a ty n f) : n < 2 ^ 31 := by obtain ⟨c, A, r1, r2, -⟩ := F; exact r2
theorem ArF.fit (F : ArF Z h a ty n f) {i : Nat} (hi : i < n) : fits ty (f i) = true := by obtain ⟨c, A, r1, r2, r3, r4⟩ := F; exact r4 i hi
theorem ArF.congr {g : Nat → Value} (F : ArF Z h a ty n f) (q : ∀ i, i < n → g i = f i) : ArF Z h a ty n g := by
  obtain ⟨c, A, r1, r2, r3, r4⟩ := F
  exact ⟨c, A, r1, r2, fun i hi => by rw [q i hi]; exact r3 i hi, fun i hi => by rw [q i hi]; exact r4 i hi⟩
theorem ArF.new {k : ClassId} {z : Int32} (A : Arr Z h a (newA k ty z) ty) (hn : ¬ z < 0) (hz : z.toNatClampNeg = n) : ArF Z h a ty n (fun _ => defaultValue ty) := by
  subst hz
  refine ⟨_, A, sz_new _ _ _, (back32 hn).2, fun i hi => ?_, fun i hi => by cases ty <;> rfl⟩
  simp [newA, hi]
theorem ArF.set {x : Nat} (F : ArF Z h a ty n f) (hv : fits ty v = true) (W : Wr h h' a x v) : ArF Z h' a ty n (upV f x v) := by
  obtain ⟨c, A, r1, r2, r3, r4⟩ := F
  refine ⟨_, A.same W, by simp [Cell.setSlot, r1], r2, fun i hi => ?_, fun i hi => ?_⟩
  · by_cases e : i = x
    · subst e; simp [upV, Cell.setSlot, r1, hi]
    · simp only [upV, e, if_false, Cell.setSlot]
      rw [Array.getElem?_setIfInBounds_ne (Ne.symm e)]; exact r3 i hi
  · by_cases e : i = x
    · simp [upV, e, hv]
    · simp only [upV, e, if_false]; exact r4 i hi
theorem ArF.arv (F : ArF Z h a ty n f) (d : Value) : ∃ k, Arv Z h a k ty n.toInt32 ((List.range n).map f) d := by
  obtain ⟨c, A, r1, r2, r3, r4⟩ := F
  have hz : (n.toInt32).toInt = n := len_toInt r2
  have hz0 : (0 : Int32).toInt = 0 := rfl
  have hg : ∀ i, i < n → ((List.range n).map f).getD i d = f i := fun i hi => by simp [List.getD, hi]
  refine ⟨c.cls, c, A, rfl, ?_, by rw [Int32.lt_iff_toInt_lt]; omega, fun i hi => ?_, fun i hi => ?_⟩
  · rw [r1, Int32.toNatClampNeg]; omega
  · rw [r1] at hi; rw [hg i hi]; exact r3 i hi
  · rw [r1] at hi; rw [hg i hi]; exact r4 i hi
theorem arF_of_arv {k : ClassId} {z : Int32} {vs : List Value} {d : Value} (F : Arv Z h a k ty z vs d) : ArF Z h a ty z.toNatClampNeg (fun i => vs.getD i d) := by
  obtain ⟨c, A, -, r2, r3, r4, r5⟩ := F
  exact ⟨c, A, r2, (back32 r3).2, fun i hi => r4 i (by rw [r2]; exact hi), fun i hi => r5 i (by rw [r2]; exact hi)⟩
/-- n places of f from sp on, laid over f' from dp on -/
def cpF (f f' : Nat → Value) (sp dp nn : Nat) (i : Nat) : Value := if dp ≤ i ∧ i < dp + nn then f (sp + (i - dp)) else f' i
def cpT {α : Type} (f f' : Nat → α) (sp dp nn : Nat) (i : Nat) : α := if dp ≤ i ∧ i < dp + nn then f (sp + (i - dp)) else f' i
theorem ArF.cpI {g g' : Nat → Int32} {x y z : Nat} (F : ArF Z h a ty n (cpF (fun i => .int (g i)) (fun i => .int (g' i)) x y z)) : ArF Z h a ty n (fun i => .int (cpT g g' x y z i)) := F.congr fun i _ => by simp only [cpF, cpT]; split <;> rfl
theorem ArF.cpJ {g g' : Nat → Int64} {x y z : Nat} (F : ArF Z h a ty n (cpF (fun i => .long (g i)) (fun i => .long (g' i)) x y z)) : ArF Z h a ty n (fun i => .long (cpT g g' x y z i)) := F.congr fun i _ => by simp only [cpF, cpT]; split <;> rfl
theorem ArF.cpD {g g' : Nat → UInt64} {x y z : Nat} (F : ArF Z h a ty n (cpF (fun i => .double (g i)) (fun i => .double (g' i)) x y z)) : ArF Z h a ty n (fun i => .double (cpT g g' x y z i)) := F.congr fun i _ => by simp only [cpF, cpT]; split <;> rfl
theorem nat_idx {j : Int32} {k : Nat} (hj : j.toInt = (k : Int)) : j.toNatClampNeg = k := by simp only [Int32.toNatClampNeg]; omega
theorem in_idx {j : Int32} {k : Nat} {c : Cell} (hj : j.toInt = (k : Int)) (hk : k < n) (e : c.slots.size = n) : ¬ (j < 0 ∨ c.slots.size ≤ j.toNatClampNeg) := by
  rw [nat_idx hj, e, Int32.lt_iff_toInt_lt]
  have : (0 : Int32).toInt = 0 := rfl
  omega
end ArF
section ArrSteps
variable {p : Program} {l : Launch} {e : Env} {R : Room} {s : State} {m : MethodId} {args : Array Value} {below : List Frame} {meth : Method} {c : Code} {T : State} {locs : List Loc} {cells slots : Nat} {Q : Option Value → Heap → List Loc → Prop} {C S : Nat} {Z : State} {a0 : Array Value} {h : Heap} {a : Addr} {n : Nat} {j : Int32} {pc pc' : Nat} {Ls : Array Slot} {rest : List Value}
theorem Go.alen (X : Stand p l e R s m args below meth c T locs cells slots) (hx : p.tables.exec = Jvm.exec) (hZ : Z.Warmed39 s.vm) (eT : T.heap = h) {ty : FieldType} {f : Nat → Value} (F : ArF Z h a ty n f) {z : Int32} (hz : n.toInt32 = z) (hd : decode c.code pc = .ok (.arraylength, 1)) (hp : pc + 1 = pc')
    (kk : Go p.tables e below s Q C S (T.setTop (mkF m pc' Ls (.int z :: rest)))) : Go p.tables e below s Q C S (T.setTop (mkF m pc Ls (.ref a :: rest))) := by
  subst hp hz
  obtain ⟨cl, A, r1, r2, -⟩ := F
  subst r1
  exact Go.of (fun t q => X.arraylength hx (by rw [eT]; exact A.1) (State.isArrayOf_alike hZ.alike A.2.1) (g := mkF m pc Ls (.ref a :: rest)) rfl rfl hd t q) kk
theorem Go.baload (X : Stand p l e R s m args below meth c T locs cells slots) (hx : p.tables.exec = Jvm.exec) (hZ : Z.Warmed39 s.vm) (eT : T.heap = h) {f : Nat → Int32} (F : ArF Z h a .byte n (fun i => .int (f i))) {k : Nat} (hj : j.toInt = (k : Int)) (hk : k < n) {v : Int32} (hv : f k = v) (hd : decode c.code pc = .ok (.baload, 1)) (hp : pc + 1 = pc')
    (kk : Go p.tables e below s Q C S (T.setTop (mkF m pc' Ls (.int v :: rest)))) : Go p.tables e below s Q C S (T.setTop (mkF m pc Ls (.int j :: .ref a :: rest))) := by
  subst hp hv
  obtain ⟨cl, A, r1, r2, r3, -⟩ := F
  exact Go.of (fun t q => X.baloadBytes hx (j := j) (v := .int (f k)) (by rw [eT]; exact A.1) (State.isArrayOf_alike hZ.alike A.2.1) A.2.2 (in_idx hj hk r1) (by rw [nat_idx hj, r3 _ hk]) (g := mkF m pc Ls (.int j :: .ref a :: rest)) rfl rfl hd t q) kk
end ArrSteps
section Steps1
variable {p : Program} {l : Launch} {e : Env} {R : Room} {s : State} {m : MethodId} {args : Array Value} {below : List Frame} {meth : Method} {c : Code} {T : State} {locs : List Loc} {cells slots : Nat} {Q : Option Value → Heap → List Loc → Prop} {C S : Nat} {bs : ByteArray} {pc pc' : Nat} {Ls : Array Slot} {st : List Value} {Z : State} {a0 : Array Value} {h : Heap} {own : String}
theorem g_iloadN (X : Stand p l e R s m args below meth c T locs cells slots) (hx : p.tables.exec = Jvm.exec) (hby : c.code = bs) {k : Fin 4} {v : Int32} (hd : decode bs pc = .ok (.iload_n k, 1)) (hp : pc + 1 = pc') (hl : Ls[k.val]? = some (.val (.int v))) (kk : Go p.tables e below s Q C S (T.setTop (mkF m pc' Ls (.int v :: st)))) : Go p.tables e below s Q C S (T.setTop (mkF m pc Ls (st))) := by
  subst hp
  exact Go.of (fun _ q => XS.iloadN X.here hx rfl (hb hby hd) hl q) kk
theorem g_iload (X : Stand p l e R s m args below meth c T locs cells slots) (hx : p.tables.exec = Jvm.exec) (hby : c.code = bs) {k : Nat} {v : Int32} (hd : decode bs pc = .ok (.iload k, 2)) (hp : pc + 2 = pc') (hl : Ls[k]? = some (.val (.int v))) (kk : Go p.tables e below s Q C S (T.setTop (mkF m pc' Ls (.int v :: st)))) : Go p.tables e below s Q C S (T.setTop (mkF m pc Ls (st))) := by
  subst hp
  exact Go.of (fun _ q => XS.iload X.here hx rfl (hb hby hd) hl q) kk
theorem g_istore (X : Stand p l e R s m args below meth c T locs cells slots) (hx : p.tables.exec = Jvm.exec) (hby : c.code = bs) {k : Nat} {v : Int32} {L' : Array Slot} (hd : decode bs pc = .ok (.istore k, 2)) (hp : pc + 2 = pc') (hl : storeLocals Ls k (.int v) = some L') (kk : Go p.tables e below s Q C S (T.setTop (mkF m pc' L' (st)))) : Go p.tables e below s Q C S (T.setTop (mkF m pc Ls (.int v :: st))) := by
  subst hp
  exact Go.of (fun _ q => XS.istore X.here hx rfl (hb hby hd) rfl hl q) kk
theorem g_iadd (X : Stand p l e R s m args below meth c T locs cells slots) (hx : p.tables.exec = Jvm.exec) (hby : c.code = bs) {x y z : Int32} (hd : decode bs pc = .ok (.iadd, 1)) (hp : pc + 1 = pc') (hz : x + y = z) (kk : Go p.tables e below s Q C S (T.setTop (mkF m pc' Ls (.int z :: st)))) : Go p.tables e below s Q C S (T.setTop (mkF m pc Ls (.int y :: .int x :: st))) := by
  subst hp; subst hz
  exact Go.of (fun _ q => XS.iadd X.here hx rfl (hb hby hd) rfl q) kk
theorem g_isub (X : Stand p l e R s m args below meth c T locs cells slots) (hx : p.tables.exec = Jvm.exec) (hby : c.code = bs) {x y z : Int32} (hd : decode bs pc = .ok (.isub, 1)) (hp : pc + 1 = pc') (hz : x - y = z) (kk : Go p.tables e below s Q C S (T.setTop (mkF m pc' Ls (.int z :: st)))) : Go p.tables e below s Q C S (T.setTop (mkF m pc Ls (.int y :: .int x :: st))) := by
  subst hp; subst hz
  exact Go.of (fun _ q => XS.isub X.here hx rfl (hb hby hd) rfl q) kk
theorem g_iand (X : Stand p l e R s m args below meth c T locs cells slots) (hx : p.tables.exec = Jvm.exec) (hby : c.code = bs) {x y z : Int32} (hd : decode bs pc = .ok (.iand, 1)) (hp : pc + 1 = pc') (hz : x &&& y = z) (kk : Go p.tables e below s Q C S (T.setTop (mkF m pc' Ls (.int z :: st)))) : Go p.tables e below s Q C S (T.setTop (mkF m pc Ls (.int y :: .int x :: st))) := by
  subst hp; subst hz
  exact Go.of (fun _ q => XS.iand X.here hx rfl (hb hby hd) rfl q) kk
theorem g_ishr (X : Stand p l e R s m args below meth c T locs cells slots) (hx : p.tables.exec = Jvm.exec) (hby : c.code = bs) {x z : Int32} {y : Int32} (hd : decode bs pc = .ok (.ishr, 1)) (hp : pc + 1 = pc') (hz : x >>> (y &&& 31) = z) (kk : Go p.tables e below s Q C S (T.setTop (mkF m pc' Ls (.int z :: st)))) : Go p.tables e below s Q C S (T.setTop (mkF m pc Ls (.int y :: .int x :: st))) := by
  subst hp; subst hz
  exact Go.of (fun _ q => XS.ishr X.here hx rfl (hb hby hd) rfl q) kk
theorem g_i2c (X : Stand p l e R s m args below meth c T locs cells slots) (hx : p.tables.exec = Jvm.exec) (hby : c.code = bs) {x : Int32} {z : Int32} (hd : decode bs pc = .ok (.i2c, 1)) (hp : pc + 1 = pc') (hz : x.toUInt32.toUInt16.toUInt32.toInt32 = z) (kk : Go p.tables e below s Q C S (T.setTop (mkF m pc' Ls (.int z :: st)))) : Go p.tables e below s Q C S (T.setTop (mkF m pc Ls (.int x :: st))) := by
  subst hp; subst hz
  exact Go.of (fun _ q => XS.i2c X.here hx rfl (hb hby hd) rfl q) kk
theorem g_aloadN (X : Stand p l e R s m args below meth c T locs cells slots) (hx : p.tables.exec = Jvm.exec) (hby : c.code = bs) {k : Fin 4} {v : Value} (hd : decode bs pc = .ok (.aload_n k, 1)) (hp : pc + 1 = pc') (hl : Ls[k.val]? = some (.val v)) (hr : v.isRef = true) (kk : Go p.tables e below s Q C S (T.setTop (mkF m pc' Ls (v :: st)))) : Go p.tables e below s Q C S (T.setTop (mkF m pc Ls (st))) := by
  subst hp
  exact Go.of (fun _ q => XS.aloadN X.here hx rfl (hb hby hd) hl hr q) kk
theorem g_iconst (X : Stand p l e R s m args below meth c T locs cells slots) (hx : p.tables.exec = Jvm.exec) (hby : c.code = bs) {i : Int} {z : Int32} (hd : decode bs pc = .ok (.iconst i, 1)) (hp : pc + 1 = pc') (hz : Int32.ofInt i = z) (kk : Go p.tables e below s Q C S (T.setTop (mkF m pc' Ls (.int z :: st)))) : Go p.tables e below s Q C S (T.setTop (mkF m pc Ls (st))) := by
  subst hp; subst hz
  exact Go.of (fun _ q => XS.iconst X.here hx rfl (hb hby hd) q) kk
theorem g_bipush (X : Stand p l e R s m args below meth c T locs cells slots) (hx : p.tables.exec = Jvm.exec) (hby : c.code = bs) {i : Int} {z : Int32} (hd : decode bs pc = .ok (.bipush i, 2)) (hp : pc + 2 = pc') (hz : (Int8.ofInt i).toInt32 = z) (kk : Go p.tables e below s Q C S (T.setTop (mkF m pc' Ls (.int z :: st)))) : Go p.tables e below s Q C S (T.setTop (mkF m pc Ls (st))) := by
  subst hp; subst hz
  exact Go.of (fun _ q => XS.bipush X.here hx rfl (hb hby hd) q) kk
theorem g_sipush (X : Stand p l e R s m args below meth c T locs cells slots) (hx : p.tables.exec = Jvm.exec) (hby : c.code = bs) {i : Int} {z : Int32} (hd : decode bs pc = .ok (.sipush i, 3)) (hp : pc + 3 = pc') (hz : (Int16.ofInt i).toInt32 = z) (kk : Go p.tables e below s Q C S (T.setTop (mkF m pc' Ls (.int z :: st)))) : Go p.tables e below s Q C S (T.setTop (mkF m pc Ls (st))) := by
  subst hp; subst hz
  exact Go.of (fun _ q => XS.sipush X.here hx rfl (hb hby hd) q) kk
theorem g_pop (X : Stand p l e R s m args below meth c T locs cells slots) (hx : p.tables.exec = Jvm.exec) (hby : c.code = bs) {v : Value} (hd : decode bs pc = .ok (.pop, 1)) (hp : pc + 1 = pc') (hc : v.category = 1) (kk : Go p.tables e below s Q C S (T.setTop (mkF m pc' Ls (st)))) : Go p.tables e below s Q C S (T.setTop (mkF m pc Ls (v :: st))) := by
  subst hp
  exact Go.of (fun _ q => XS.pop X.here hx rfl (hb hby hd) rfl hc q) kk
theorem g_goto (X : Stand p l e R s m args below meth c T locs cells slots) (hx : p.tables.exec = Jvm.exec) (hby : c.code = bs) {o : Int} (hd : decode bs pc = .ok (.goto o, 3)) (h0 : 0 ≤ (pc : Int) + o) (hp : ((pc : Int) + o).toNat = pc') (kk : Go p.tables e below s Q C S (T.setTop (mkF m pc' Ls st))) : Go p.tables e below s Q C S (T.setTop (mkF m pc Ls st)) :=
  Go.of (fun _ q => XS.goto X.here hx rfl (pc0 := pc) (pc' := pc') rfl (hb hby hd) h0 hp q) kk
theorem g_ifYes (X : Stand p l e R s m args below meth c T locs cells slots) (hx : p.tables.exec = Jvm.exec) (hby : c.code = bs) {cd : ClassFile.Cond} {x : Int32} {o : Int} (hd : decode bs pc = .ok (.ifCond cd o, 3)) (hc : if_icmp.holds cd x 0 = true) (h0 : 0 ≤ (pc : Int) + o) (hp : ((pc : Int) + o).toNat = pc') (kk : Go p.tables e below s Q C S (T.setTop (mkF m pc' Ls st))) : Go p.tables e below s Q C S (T.setTop (mkF m pc Ls (.int x :: st))) :=
  Go.of (fun _ q => XS.ifYes X.here hx rfl (pc0 := pc) (pc' := pc') rfl (hb hby hd) rfl ((if0 _ _).trans hc) h0 hp q) kk
theorem g_ifNo (X : Stand p l e R s m args below meth c T locs cells slots) (hx : p.tables.exec = Jvm.exec) (hby : c.code = bs) {cd : ClassFile.Cond} {x : Int32} {o : Int} (hd : decode bs pc = .ok (.ifCond cd o, 3)) (hc : if_icmp.holds cd x 0 = false) (hp : pc + 3 = pc') (kk : Go p.tables e below s Q C S (T.setTop (mkF m pc' Ls st))) : Go p.tables e below s Q C S (T.setTop (mkF m pc Ls (.int x :: st))) := by
  subst hp
  exact Go.of (fun _ q => XS.ifNo X.here hx rfl (hb hby hd) rfl ((if0 _ _).trans hc) q) kk
theorem g_icmpYes (X : Stand p l e R s m args below meth c T locs cells slots) (hx : p.tables.exec = Jvm.exec) (hby : c.code = bs) {cd : ClassFile.Cond} {x y : Int32} {o : Int} (hd : decode bs pc = .ok (.if_icmp cd o, 3)) (hc : if_icmp.holds cd x y = true) (h0 : 0 ≤ (pc : Int) + o) (hp : ((pc : Int) + o).toNat = pc') (kk : Go p.tables e below s Q C S (T.setTop (mkF m pc' Ls st))) : Go p.tables e below s Q C S (T.setTop (mkF m pc Ls (.int y :: .int x :: st))) :=
  Go.of (fun _ q => XS.icmpYes X.here hx rfl (pc0 := pc) (pc' := pc') rfl (hb hby hd) rfl hc h0 hp q) kk
theorem g_icmpNo (X : Stand p l e R s m args below meth c T locs cells slots) (hx : p.tables.exec = Jvm.exec) (hby : c.code = bs) {cd : ClassFile.Cond} {x y : Int32} {o : Int} (hd : decode bs pc = .ok (.if_icmp cd o, 3)) (hc : if_icmp.holds cd x y = false) (hp : pc + 3 = pc') (kk : Go p.tables e below s Q C S (T.setTop (mkF m pc' Ls st))) : Go p.tables e below s Q C S (T.setTop (mkF m pc Ls (.int y :: .int x :: st))) := by
  subst hp
  exact Go.of (fun _ q => XS.icmpNo X.here hx rfl (hb hby hd) rfl hc q) kk
theorem g_getf (X : Stand p l e R s m args below meth c T locs cells slots) (hx : p.tables.exec = Jvm.exec) (hby : c.code = bs) (hZ : Z.Warmed39 s.vm) {R0 O n d host : String} {i : Nat} (hown : s.vm.findClass own = some m.cls) (w : (Cond.fieldLink own i R0 n d).before a0 Z = true ∨ (Cond.fieldLinkNest own i R0 n d host).before a0 Z = true) (via : Via Z R0 O n d) (eT : T.heap = h) {a : Addr} {v : Value} (F : Fld Z h a O n d v) (hd : decode bs pc = .ok (.getfield i, 3)) (hp : pc + 3 = pc') (kk : ∀ T', Stand p l e R s m args below meth c T' locs cells slots → T'.heap = h → Go p.tables e below s Q C S (T'.setTop (mkF m pc' Ls (v :: st)))) : Go p.tables e below s Q C S (T.setTop (mkF m pc Ls (.ref a :: st))) := by
  subst hp
  obtain ⟨T', X', e', q⟩ := getF X hx hZ hown w via eT F (g := mkF m pc Ls (.ref a :: st)) rfl rfl (hb hby hd)
  exact Go.of q (kk T' X' e')
end Steps1
variable {sA ZW : State} {EL : List (String × Nat)}
/-- what a body's end says, where constants may be booked -/
def DoneW (Z : State) (EL : List (String × Nat)) (s : State) (below : List Frame) (Q : Option Value → Heap → List Loc → Prop) (C S : Nat) (t : State) (o : Outcome) : Prop :=
  t.status = .running ∧ Ended t below o ∧ ∃ v L, o = .returned v ∧ Q v t.heap L ∧ CHr Z EL s.vm s.heap t.vm t.heap ∧ ReturnedEndW s o t L C S
def GoW {Z : State} {EL : List (String × Nat)} (tb : Tables) (e : Env) (below : List Frame) (s : State) (Q : Option Value → Heap → List Loc → Prop) (C S : Nat) (A : State) : Prop :=
  ∃ t o, Steps tb e below A t ∧ DoneW Z EL s below Q C S t o
/-- s is sA with later tables -/
def Lk (sA s : State) (h : Heap) : Prop := ∃ (vm : Vm) (k : Nat), s = sA.setVm vm ∧ sA.Since vm k ∧ k ≤ h.size
theorem Lk.start (s : State) (h : Heap) : Lk s s h := ⟨s.vm, 0, rfl, (State.WarmedH.refl s).since 0, Nat.zero_le _⟩
theorem Lk.mono {s : State} {h h' : Heap} (K : Lk sA s h) (q : h.size ≤ h'.size) : Lk sA s h' := by
  obtain ⟨vm, k, h1, h2, h3⟩ := K; exact ⟨vm, k, h1, h2, Nat.le_trans h3 q⟩
/-- a contract of a callee that may book constants -/
abbrev ConW (l : Launch) (Z : State) (EL : List (String × Nat)) (y : MethodName) (bytes : ByteArray) (maxL : Nat) (ret : Option FieldType) (rm : Room) (as : Array Value) (h0 : Heap) (Q : Option Value → Heap → List Loc → Prop) : Prop :=
  MetFree l y (head1 [Cond.code y bytes maxL ret] rm) (fun a U => a = as ∧ Z.Warmed39 U.vm ∧ U.heap = h0 ∧ CHv Z EL U.vm h0) (fun _ _ _ _ _ => True) (fun _ U o U' => ∃ v L, o = .returned v ∧ Q v U'.heap L ∧ CHr Z EL U.vm U.heap U'.vm U'.heap ∧ ReturnedEndW U o U' L rm.cells rm.slots)
theorem meetW {l : Launch} {Z : State} {y : MethodName} {bytes : ByteArray} {maxL : Nat} {ret : Option FieldType} {ws : List Cond} {rm : Room} {as : Array Value} {Ls : Array Slot} {h0 : Heap} {Q : Option Value → Heap → List Loc → Prop}
    (hpl : plainFor y = true) (ef : ∀ m, entryFrame m as maxL = mkF m 0 Ls [])
    (body : ∀ (p : Program) (e : Env) (sA s : State) (m : MethodId) (below : List Frame) (meth : Method) (c : Code) (T : State), p.tables.exec = Jvm.exec → c.code = bytes → c.maxLocals = maxL → Z.Warmed39 s.vm → s.vm.findClass y.cls = some m.cls → meth.name = y.name →
      meth.sig.returnType = ret → meth.locks = false → Stand p l e rm s m as below meth c T [] 0 0 → T.heap = h0 → Lk sA s h0 → CHr Z EL sA.vm sA.heap s.vm h0 → GoW (Z := Z) (EL := EL) p.tables e below sA Q rm.cells rm.slots (T.setTop (mkF m 0 Ls []))) :
    MetFree l y (head1 (Cond.code y bytes maxL ret :: ws) rm) (fun a U => a = as ∧ Z.Warmed39 U.vm ∧ U.heap = h0 ∧ CHv Z EL U.vm h0) (fun _ _ _ _ _ => True) (fun _ U o U' => ∃ v L, o = .returned v ∧ Q v U'.heap L ∧ CHr Z EL U.vm U.heap U'.vm U'.heap ∧ ReturnedEndW U o U' L rm.cells rm.slots) := by
  refine MetFree.of_bodySF hpl hisR ?_
  intro p e s m args below meth c s₁ Bd hml0 hP hK
  obtain ⟨rfl, hZ, hh, hC⟩ := hP
  obtain ⟨t, o, h1, h2, h3, h4⟩ := body p e s s m below meth c s₁ Bd.exec Bd.bytes hml0 hZ (findClass_of_methodNamed Bd.named) (name_of_methodNamed Bd.named Bd.method).1 Bd.returns Bd.notSynchronized (Stand.of_body Bd) (by rw [← hh, Bd.state]; rfl) (Lk.start _ _) (by rw [hh]; exact CHr.refl hC)
  exact ⟨t, o, castTop (ef m) h1, h2, h3, h4⟩
theorem GoW.of {tb : Tables} {e : Env} {below : List Frame} {Q : Option Value → Heap → List Loc → Prop} {C S : Nat} {A B : State}
    (g : ∀ t, Steps tb e below B t → Steps tb e below A t) (h : GoW (Z := ZW) (EL := EL) tb e below sA Q C S B) : GoW (Z := ZW) (EL := EL) tb e below sA Q C S A := by
  obtain ⟨t, o, h1, h2⟩ := h
  exact ⟨t, o, g t h1, h2⟩
theorem GoW.push {tb : Tables} {e : Env} {below : List Frame} {Q : Option Value → Heap → List Loc → Prop} {C S : Nat} {T : State} {m : MethodId} {pc pc' : Nat} {Ls : Array Slot} {v : Value} {st : List Value} (hp : pc = pc') (h : GoW (Z := ZW) (EL := EL) tb e below sA Q C S (T.setTop (mkF m pc' Ls (v :: st)))) : GoW (Z := ZW) (EL := EL) tb e below sA Q C S (T.setTop (mkF m pc Ls ((some v).toList ++ st))) := hp ▸ h
variable {p : Program} {l : Launch} {e : Env} {R : Room} {s : State} {m : MethodId} {args : Array Value} {below : List Frame} {meth : Method} {c : Code} {T : State} {locs : List Loc} {cells slots : Nat} {Q : Option Value → Heap → List Loc → Prop} {C S : Nat}
section CallW
variable {p : Program} {l : Launch} {e : Env} {R : Room} {s : State} {m : MethodId} {args : Array Value} {below : List Frame} {meth : Method} {c : Code} {T : State} {locs : List Loc} {cells slots : Nat} {Q : Option Value → Heap → List Loc → Prop} {C S : Nat} {Z : State} {a0 : Array Value} {h : Heap}
theorem GoW.callS (X : Stand p l e R s m args below meth c T locs cells slots) (hx : p.tables.exec = Jvm.exec) (hZ : Z.Warmed39 s.vm) {own : String} {index : Nat} {y : MethodName} {bytes : ByteArray} {maxL : Nat} {ret : Option FieldType} {rm : Room} {Q' : Option Value → Heap → List Loc → Prop}
    (hown : s.vm.findClass own = some m.cls) (w1 : (Cond.methodLink own index y).before a0 Z = true) (w2 : (Cond.static y).before a0 Z = true) (w3 : (Cond.initialized y.cls).before a0 Z = true)
    (w4 : (Cond.code y bytes maxL ret).before a0 Z = true) (hy : y.cls ≠ "java/lang/invoke/MethodHandle" ∧ y.cls ≠ "java/lang/invoke/VarHandle")
    (eT : T.heap = h) {pc : Nat} {Ls : Array Slot} {argsL rest st : List Value} {W : Nat} {ps : List FieldType} (hM : Con l Z y bytes maxL ret rm argsL.toArray h Q') (hd : decode c.code pc = .ok (.invokestatic index, 3))
    (hsz : Ls.size = c.maxLocals) (hst : st = argsL.reverse ++ rest) (hpd : parseMethodDescriptor y.desc = some ⟨ps, ret⟩) (hlen : argsL.length = ps.length) (hW : (rest.map fun v => v.category).sum = W)
    (hf : rm.frames + 1 ≤ R.frames) (hl : W + (maxL + 11) + rm.locals ≤ R.locals) (hc : cells + rm.cells ≤ R.cells) (hn : slots + rm.slots ≤ R.slots)
    (k : ∀ (v : Option Value) (T' : State) (L' : List Loc), Stand p l e R s m args below meth c T' (locs ++ L') (cells + rm.cells) (slots + rm.slots) → Q' v T'.heap L' → GoW (Z := ZW) (EL := EL) p.tables e below sA Q C S (T'.setTop (mkF m (pc + 3) Ls (v.toList ++ rest)))) :
    GoW (Z := ZW) (EL := EL) p.tables e below sA Q C S (T.setTop (mkF m pc Ls st)) := by
  obtain ⟨v, _, ⟨T', L', kc, kn⟩, -, X', ⟨Lc, hQ, l3, y3, z3⟩, st⟩ := Jvm.LawKit.callS X hx hown (mvT hZ w1) (mvT hZ w2) (mvT hZ w3) (mvT hZ w4) hy (backOf (W := W) hM hZ w4 w3 hf hl) (g := mkF m pc Ls st) rfl hsz (argsL := argsL) (rest := rest) (lenOf hpd hlen) hst (by show 2 * 0 + _ ≤ _; rw [hW]; omega) hd (fun _ _ => ⟨rfl, eT, hc, hn⟩)
  dsimp only [Pt.U, Pt.locs, Pt.cells, Pt.slots] at X' l3 y3 z3 st hQ
  subst l3 y3 z3
  exact GoW.of st (k v T' Lc X' hQ)
theorem GoW.callV (X : Stand p l e R s m args below meth c T locs cells slots) (hx : p.tables.exec = Jvm.exec) (hZ : Z.Warmed39 s.vm) {own K : String} {index : Nat} {y z : MethodName} {bytes : ByteArray} {maxL : Nat} {ret : Option FieldType} {rm : Room} {Q' : Option Value → Heap → List Loc → Prop}
    (hown : s.vm.findClass own = some m.cls) (w1 : (Cond.methodLink own index y).before a0 Z = true) (w2 : (Cond.declares y).before a0 Z = true) (nf : NotFace s y) (w5 : (Cond.selects K y z).before a0 Z = true) (w6 : (Cond.instanceMethod z).before a0 Z = true) (w3 : (Cond.initialized z.cls).before a0 Z = true)
    (w4 : (Cond.code z bytes maxL ret).before a0 Z = true) (hy : y.cls ≠ "java/lang/invoke/MethodHandle" ∧ y.cls ≠ "java/lang/invoke/VarHandle")
    (eT : T.heap = h) {pc : Nat} {Ls : Array Slot} {a : Addr} {argsL rest st : List Value} {W : Nat} {ps : List FieldType} {rt : Option FieldType} (E : Exa Z h a K) (hM : Con l Z z bytes maxL ret rm (.ref a :: argsL).toArray h Q') (hd : decode c.code pc = .ok (.invokevirtual index, 3))
    (hsz : Ls.size = c.maxLocals) (hst : st = argsL.reverse ++ .ref a :: rest) (hpd : parseMethodDescriptor y.desc = some ⟨ps, rt⟩) (hlen : argsL.length = ps.length) (hW : (rest.map fun v => v.category).sum = W)
    (hf : rm.frames + 1 ≤ R.frames) (hl : W + (maxL + 11) + rm.locals ≤ R.locals) (hc : cells + rm.cells ≤ R.cells) (hn : slots + rm.slots ≤ R.slots)
    (k : ∀ (v : Option Value) (T' : State) (L' : List Loc), Stand p l e R s m args below meth c T' (locs ++ L') (cells + rm.cells) (slots + rm.slots) → Q' v T'.heap L' → GoW (Z := ZW) (EL := EL) p.tables e below sA Q C S (T'.setTop (mkF m (pc + 3) Ls (v.toList ++ rest)))) :
    GoW (Z := ZW) (EL := EL) p.tables e below sA Q C S (T.setTop (mkF m pc Ls st)) := by
  obtain ⟨cq, kq, qa, qb, qc⟩ := isOf hZ eT E
  obtain ⟨v, _, ⟨T', L', kc, kn⟩, -, X', ⟨Lc, hQ, l3, y3, z3⟩, st⟩ := X.virtualBack hx (y := y) (z := z) hown (mvT hZ w1) (mvT hZ w2) nf (mvT hZ w5) (mvT hZ w6) hy (backOf (W := W) hM hZ w4 w3 hf hl) qa qc (g := mkF m pc Ls st) rfl hsz (Steps.refl _) (argsL := argsL) (rest := rest) (lenOf hpd hlen) hst (by show 2 * 0 + _ ≤ _; rw [hW]; omega) hd (fun _ _ => ⟨rfl, eT, hc, hn⟩)
  dsimp only [Pt.U, Pt.locs, Pt.cells, Pt.slots] at X' l3 y3 z3 st hQ
  subst l3 y3 z3
  exact GoW.of (fun _ q => st.trans q) (k v T' Lc X' hQ)
end CallW
variable {Z : State} {h h' : Heap} {a b : Addr} {ty : FieldType} {n : Nat} {f : Nat → Value} {sl : Nat} {v : Value} {ws : List Addr}
section ArrStepsW
variable {p : Program} {l : Launch} {e : Env} {R : Room} {s : State} {m : MethodId} {args : Array Value} {below : List Frame} {meth : Method} {c : Code} {T : State} {locs : List Loc} {cells slots : Nat} {Q : Option Value → Heap → List Loc → Prop} {C S : Nat} {Z : State} {a0 : Array Value} {h : Heap} {a : Addr} {n : Nat} {j : Int32} {pc pc' : Nat} {Ls : Array Slot} {rest : List Value}
theorem GoW.bastore (X : Stand p l e R s m args below meth c T locs cells slots) (hx : p.tables.exec = Jvm.exec) (hZ : Z.Warmed39 s.vm) (eT : T.heap = h) {f : Nat → Int32} (F : ArF Z h a .byte n (fun i => .int (f i))) {x : Int32} {k : Nat} (hj : j.toInt = (k : Int)) (hk : k < n) (hd : decode c.code pc = .ok (.bastore, 1)) (hp : pc + 1 = pc')
    (kk : ∀ T' h', Stand p l e R s m args below meth c T' (locs ++ [⟨a, k⟩]) cells slots → T'.heap = h' → Wr h h' a k (.int (nar .byte x)) → ArF Z h' a .byte n (fun i => .int (upI f k (nar .byte x) i)) → GoW (Z := ZW) (EL := EL) p.tables e below sA Q C S (T'.setTop (mkF m pc' Ls rest))) : GoW (Z := ZW) (EL := EL) p.tables e below sA Q C S (T.setTop (mkF m pc Ls (.int x :: .int j :: .ref a :: rest))) := by
  subst hp
  obtain ⟨cl, A, r1, r2, r3, r4⟩ := F
  obtain ⟨T', h', X', e', W, st⟩ := stB X hx hZ eT A (j := j) (in_idx hj hk r1) (g := mkF m pc Ls (.int x :: .int j :: .ref a :: rest)) rfl rfl hd
  rw [nat_idx hj] at X' W
  exact GoW.of st (kk T' h' X' e' W ((ArF.set ⟨cl, A, r1, r2, r3, r4⟩ (fits_nar_byte _) W).congr fun i _ => by simp only [upV, upI]; split <;> rfl))
theorem GoW.newarr (X : Stand p l e R s m args below meth c T locs cells slots) (hx : p.tables.exec = Jvm.exec) (hZ : Z.Warmed39 s.vm) {aty : ArrayType} {ty : FieldType} (hty : newarray.typeOf aty = ty) (w : (Cond.arrayClass ty).before a0 Z = true) (eT : T.heap = h) {z : Int32} (hn : ¬ z < 0) (hz : z.toNatClampNeg = n) {cap : Nat} (hcap : n ≤ cap) (hb : cap * 8 ≤ 536870912) (hc : cells + 1 ≤ R.cells) (hl : slots + cap ≤ R.slots)
    (hd : decode c.code pc = .ok (.newarray aty, 2)) (hp : pc + 2 = pc')
    (kk : ∀ T' h' b, Stand p l e R s m args below meth c T' locs (cells + 1) (slots + cap) → T'.heap = h' → Ext h h' → b = h.size → ArF Z h' b ty n (fun _ => defaultValue ty) → GoW (Z := ZW) (EL := EL) p.tables e below sA Q C S (T'.setTop (mkF m pc' Ls (.ref b :: rest)))) : GoW (Z := ZW) (EL := EL) p.tables e below sA Q C S (T.setTop (mkF m pc Ls (.int z :: rest))) := by
  subst hty hp
  obtain ⟨T', h', cA, X', e', E, A, st⟩ := newP X hx hZ w eT (g := mkF m pc Ls (.int z :: rest)) rfl hd rfl hn (cap := cap) (by omega) hb hc hl
  exact GoW.of st (kk T' h' h.size X' e' E rfl (ArF.new A hn hz))
end ArrStepsW
section Steps1W
variable {p : Program} {l : Launch} {e : Env} {R : Room} {s : State} {m : MethodId} {args : Array Value} {below : List Frame} {meth : Method} {c : Code} {T : State} {locs : List Loc} {cells slots : Nat} {Q : Option Value → Heap → List Loc → Prop} {C S : Nat} {bs : ByteArray} {pc pc' : Nat} {Ls : Array Slot} {st : List Value} {Z : State} {a0 : Array Value} {h : Heap} {own : String}
theorem gw_iloadN (X : Stand p l e R s m args below meth c T locs cells slots) (hx : p.tables.exec = Jvm.exec) (hby : c.code = bs) {k : Fin 4} {v : Int32} (hd : decode bs pc = .ok (.iload_n k, 1)) (hp : pc + 1 = pc') (hl : Ls[k.val]? = some (.val (.int v))) (kk : GoW (Z := ZW) (EL := EL) p.tables e below sA Q C S (T.setTop (mkF m pc' Ls (.int v :: st)))) : GoW (Z := ZW) (EL := EL) p.tables e below sA Q C S (T.setTop (mkF m pc Ls (st))) := by
  subst hp
  exact GoW.of (fun _ q => XS.iloadN X.here hx rfl (hb hby hd) hl q) kk
theorem gw_iload (X : Stand p l e R s m args below meth c T locs cells slots) (hx : p.tables.exec = Jvm.exec) (hby : c.code = bs) {k : Nat} {v : Int32} (hd : decode bs pc = .ok (.iload k, 2)) (hp : pc + 2 = pc') (hl : Ls[k]? = some (.val (.int v))) (kk : GoW (Z := ZW) (EL := EL) p.tables e below sA Q C S (T.setTop (mkF m pc' Ls (.int v :: st)))) : GoW (Z := ZW) (EL := EL) p.tables e below sA Q C S (T.setTop (mkF m pc Ls (st))) := by
  subst hp
  exact GoW.of (fun _ q => XS.iload X.here hx rfl (hb hby hd) hl q) kk
theorem gw_istore (X : Stand p l e R s m args below meth c T locs cells slots) (hx : p.tables.exec = Jvm.exec) (hby : c.code = bs) {k : Nat} {v : Int32} {L' : Array Slot} (hd : decode bs pc = .ok (.istore k, 2)) (hp : pc + 2 = pc') (hl : storeLocals Ls k (.int v) = some L') (kk : GoW (Z := ZW) (EL := EL) p.tables e below sA Q C S (T.setTop (mkF m pc' L' (st)))) : GoW (Z := ZW) (EL := EL) p.tables e below sA Q C S (T.setTop (mkF m pc Ls (.int v :: st))) := by
  subst hp
  exact GoW.of (fun _ q => XS.istore X.here hx rfl (hb hby hd) rfl hl q) kk
theorem gw_iadd (X : Stand p l e R s m args below meth c T locs cells slots) (hx : p.tables.exec = Jvm.exec) (hby : c.code = bs) {x y z : Int32} (hd : decode bs pc = .ok (.iadd, 1)) (hp : pc + 1 = pc') (hz : x + y = z) (kk : GoW (Z := ZW) (EL := EL) p.tables e below sA Q C S (T.setTop (mkF m pc' Ls (.int z :: st)))) : GoW (Z := ZW) (EL := EL) p.tables e below sA Q C S (T.setTop (mkF m pc Ls (.int y :: .int x :: st))) := by
  subst hp; subst hz
  exact GoW.of (fun _ q => XS.iadd X.here hx rfl (hb hby hd) rfl q) kk
theorem gw_iand (X : Stand p l e R s m args below meth c T locs cells slots) (hx : p.tables.exec = Jvm.exec) (hby : c.code = bs) {x y z : Int32} (hd : decode bs pc = .ok (.iand, 1)) (hp : pc + 1 = pc') (hz : x &&& y = z) (kk : GoW (Z := ZW) (EL := EL) p.tables e below sA Q C S (T.setTop (mkF m pc' Ls (.int z :: st)))) : GoW (Z := ZW) (EL := EL) p.tables e below sA Q C S (T.setTop (mkF m pc Ls (.int y :: .int x :: st))) := by
  subst hp; subst hz
  exact GoW.of (fun _ q => XS.iand X.here hx rfl (hb hby hd) rfl q) kk
theorem gw_irem (X : Stand p l e R s m args below meth c T locs cells slots) (hx : p.tables.exec = Jvm.exec) (hby : c.code = bs) {x y z : Int32} (hd : decode bs pc = .ok (.irem, 1)) (hp : pc + 1 = pc') (hy : y ≠ 0) (hz : x % y = z) (kk : GoW (Z := ZW) (EL := EL) p.tables e below sA Q C S (T.setTop (mkF m pc' Ls (.int z :: st)))) : GoW (Z := ZW) (EL := EL) p.tables e below sA Q C S (T.setTop (mkF m pc Ls (.int y :: .int x :: st))) := by
  subst hp; subst hz
  exact GoW.of (fun _ q => XS.irem X.here hx rfl (hb hby hd) rfl hy (by rw [irem_mod]; exact q)) kk
theorem gw_iushr (X : Stand p l e R s m args below meth c T locs cells slots) (hx : p.tables.exec = Jvm.exec) (hby : c.code = bs) {x z : Int32} {y : Int32} (hd : decode bs pc = .ok (.iushr, 1)) (hp : pc + 1 = pc') (hz : (x.toUInt32 >>> (y &&& 31).toUInt32).toInt32 = z) (kk : GoW (Z := ZW) (EL := EL) p.tables e below sA Q C S (T.setTop (mkF m pc' Ls (.int z :: st)))) : GoW (Z := ZW) (EL := EL) p.tables e below sA Q C S (T.setTop (mkF m pc Ls (.int y :: .int x :: st))) := by
  subst hp; subst hz
  exact GoW.of (fun _ q => XS.iushr X.here hx rfl (hb hby hd) rfl q) kk
theorem gw_i2b (X : Stand p l e R s m args below meth c T locs cells slots) (hx : p.tables.exec = Jvm.exec) (hby : c.code = bs) {x : Int32} {z : Int32} (hd : decode bs pc = .ok (.i2b, 1)) (hp : pc + 1 = pc') (hz : x.toInt8.toInt32 = z) (kk : GoW (Z := ZW) (EL := EL) p.tables e below sA Q C S (T.setTop (mkF m pc' Ls (.int z :: st)))) : GoW (Z := ZW) (EL := EL) p.tables e below sA Q C S (T.setTop (mkF m pc Ls (.int x :: st))) := by
  subst hp; subst hz
  exact GoW.of (fun _ q => XS.i2b X.here hx rfl (hb hby hd) rfl q) kk
theorem gw_aloadN (X : Stand p l e R s m args below meth c T locs cells slots) (hx : p.tables.exec = Jvm.exec) (hby : c.code = bs) {k : Fin 4} {v : Value} (hd : decode bs pc = .ok (.aload_n k, 1)) (hp : pc + 1 = pc') (hl : Ls[k.val]? = some (.val v)) (hr : v.isRef = true) (kk : GoW (Z := ZW) (EL := EL) p.tables e below sA Q C S (T.setTop (mkF m pc' Ls (v :: st)))) : GoW (Z := ZW) (EL := EL) p.tables e below sA Q C S (T.setTop (mkF m pc Ls (st))) := by
  subst hp
  exact GoW.of (fun _ q => XS.aloadN X.here hx rfl (hb hby hd) hl hr q) kk
theorem gw_aload (X : Stand p l e R s m args below meth c T locs cells slots) (hx : p.tables.exec = Jvm.exec) (hby : c.code = bs) {k : Nat} {v : Value} (hd : decode bs pc = .ok (.aload k, 2)) (hp : pc + 2 = pc') (hl : Ls[k]? = some (.val v)) (hr : v.isRef = true) (kk : GoW (Z := ZW) (EL := EL) p.tables e below sA Q C S (T.setTop (mkF m pc' Ls (v :: st)))) : GoW (Z := ZW) (EL := EL) p.tables e below sA Q C S (T.setTop (mkF m pc Ls (st))) := by
  subst hp
  exact GoW.of (fun _ q => XS.aload X.here hx rfl (hb hby hd) hl hr q) kk
theorem gw_astoreN (X : Stand p l e R s m args below meth c T locs cells slots) (hx : p.tables.exec = Jvm.exec) (hby : c.code = bs) {k : Fin 4} {v : Value} {L' : Array Slot} (hd : decode bs pc = .ok (.astore_n k, 1)) (hp : pc + 1 = pc') (hr : v.isRef = true) (hl : storeLocals Ls k.val v = some L') (kk : GoW (Z := ZW) (EL := EL) p.tables e below sA Q C S (T.setTop (mkF m pc' L' (st)))) : GoW (Z := ZW) (EL := EL) p.tables e below sA Q C S (T.setTop (mkF m pc Ls (v :: st))) := by
  subst hp
  exact GoW.of (fun _ q => XS.astoreN X.here hx rfl (hb hby hd) rfl hr hl q) kk
theorem gw_astore (X : Stand p l e R s m args below meth c T locs cells slots) (hx : p.tables.exec = Jvm.exec) (hby : c.code = bs) {k : Nat} {v : Value} {L' : Array Slot} (hd : decode bs pc = .ok (.astore k, 2)) (hp : pc + 2 = pc') (hr : v.isRef = true) (hl : storeLocals Ls k v = some L') (kk : GoW (Z := ZW) (EL := EL) p.tables e below sA Q C S (T.setTop (mkF m pc' L' (st)))) : GoW (Z := ZW) (EL := EL) p.tables e below sA Q C S (T.setTop (mkF m pc Ls (v :: st))) := by
  subst hp
  exact GoW.of (fun _ q => XS.astore X.here hx rfl (hb hby hd) rfl hr hl q) kk
theorem gw_iconst (X : Stand p l e R s m args below meth c T locs cells slots) (hx : p.tables.exec = Jvm.exec) (hby : c.code = bs) {i : Int} {z : Int32} (hd : decode bs pc = .ok (.iconst i, 1)) (hp : pc + 1 = pc') (hz : Int32.ofInt i = z) (kk : GoW (Z := ZW) (EL := EL) p.tables e below sA Q C S (T.setTop (mkF m pc' Ls (.int z :: st)))) : GoW (Z := ZW) (EL := EL) p.tables e below sA Q C S (T.setTop (mkF m pc Ls (st))) := by
  subst hp; subst hz
  exact GoW.of (fun _ q => XS.iconst X.here hx rfl (hb hby hd) q) kk
theorem gw_bipush (X : Stand p l e R s m args below meth c T locs cells slots) (hx : p.tables.exec = Jvm.exec) (hby : c.code = bs) {i : Int} {z : Int32} (hd : decode bs pc = .ok (.bipush i, 2)) (hp : pc + 2 = pc') (hz : (Int8.ofInt i).toInt32 = z) (kk : GoW (Z := ZW) (EL := EL) p.tables e below sA Q C S (T.setTop (mkF m pc' Ls (.int z :: st)))) : GoW (Z := ZW) (EL := EL) p.tables e below sA Q C S (T.setTop (mkF m pc Ls (st))) := by
  subst hp; subst hz
  exact GoW.of (fun _ q => XS.bipush X.here hx rfl (hb hby hd) q) kk
theorem gw_sipush (X : Stand p l e R s m args below meth c T locs cells slots) (hx : p.tables.exec = Jvm.exec) (hby : c.code = bs) {i : Int} {z : Int32} (hd : decode bs pc = .ok (.sipush i, 3)) (hp : pc + 3 = pc') (hz : (Int16.ofInt i).toInt32 = z) (kk : GoW (Z := ZW) (EL := EL) p.tables e below sA Q C S (T.setTop (mkF m pc' Ls (.int z :: st)))) : GoW (Z := ZW) (EL := EL) p.tables e below sA Q C S (T.setTop (mkF m pc Ls (st))) := by
  subst hp; subst hz
  exact GoW.of (fun _ q => XS.sipush X.here hx rfl (hb hby hd) q) kk
theorem gw_goto (X : Stand p l e R s m args below meth c T locs cells slots) (hx : p.tables.exec = Jvm.exec) (hby : c.code = bs) {o : Int} (hd : decode bs pc = .ok (.goto o, 3)) (h0 : 0 ≤ (pc : Int) + o) (hp : ((pc : Int) + o).toNat = pc') (kk : GoW (Z := ZW) (EL := EL) p.tables e below sA Q C S (T.setTop (mkF m pc' Ls st))) : GoW (Z := ZW) (EL := EL) p.tables e below sA Q C S (T.setTop (mkF m pc Ls st)) :=
  GoW.of (fun _ q => XS.goto X.here hx rfl (pc0 := pc) (pc' := pc') rfl (hb hby hd) h0 hp q) kk
theorem gw_ifYes (X : Stand p l e R s m args below meth c T locs cells slots) (hx : p.tables.exec = Jvm.exec) (hby : c.code = bs) {cd : ClassFile.Cond} {x : Int32} {o : Int} (hd : decode bs pc = .ok (.ifCond cd o, 3)) (hc : if_icmp.holds cd x 0 = true) (h0 : 0 ≤ (pc : Int) + o) (hp : ((pc : Int) + o).toNat = pc') (kk : GoW (Z := ZW) (EL := EL) p.tables e below sA Q C S (T.setTop (mkF m pc' Ls st))) : GoW (Z := ZW) (EL := EL) p.tables e below sA Q C S (T.setTop (mkF m pc Ls (.int x :: st))) :=
  GoW.of (fun _ q => XS.ifYes X.here hx rfl (pc0 := pc) (pc' := pc') rfl (hb hby hd) rfl ((if0 _ _).trans hc) h0 hp q) kk
theorem gw_ifNo (X : Stand p l e R s m args below meth c T locs cells slots) (hx : p.tables.exec = Jvm.exec) (hby : c.code = bs) {cd : ClassFile.Cond} {x : Int32} {o : Int} (hd : decode bs pc = .ok (.ifCond cd o, 3)) (hc : if_icmp.holds cd x 0 = false) (hp : pc + 3 = pc') (kk : GoW (Z := ZW) (EL := EL) p.tables e below sA Q C S (T.setTop (mkF m pc' Ls st))) : GoW (Z := ZW) (EL := EL) p.tables e below sA Q C S (T.setTop (mkF m pc Ls (.int x :: st))) := by
  subst hp
  exact GoW.of (fun _ q => XS.ifNo X.here hx rfl (hb hby hd) rfl ((if0 _ _).trans hc) q) kk
theorem gw_icmpNo (X : Stand p l e R s m args below meth c T locs cells slots) (hx : p.tables.exec = Jvm.exec) (hby : c.code = bs) {cd : ClassFile.Cond} {x y : Int32} {o : Int} (hd : decode bs pc = .ok (.if_icmp cd o, 3)) (hc : if_icmp.holds cd x y = false) (hp : pc + 3 = pc') (kk : GoW (Z := ZW) (EL := EL) p.tables e below sA Q C S (T.setTop (mkF m pc' Ls st))) : GoW (Z := ZW) (EL := EL) p.tables e below sA Q C S (T.setTop (mkF m pc Ls (.int y :: .int x :: st))) := by
  subst hp
  exact GoW.of (fun _ q => XS.icmpNo X.here hx rfl (hb hby hd) rfl hc q) kk
end Steps1W
section RetW
variable {p : Program} {l : Launch} {e : Env} {R : Room} {s : State} {m : MethodId} {args : Array Value} {below : List Frame} {meth : Method} {c : Code} {T : State} {locs : List Loc} {cells slots : Nat} {Q : Option Value → Heap → List Loc → Prop} {C S : Nat} {Z : State} {a0 : Array Value} {h : Heap}
theorem GoW.retZ (X : Stand p l e R s m args below meth c T locs cells slots) (hx : p.tables.exec = Jvm.exec) (hlk : meth.locks = false) {pc : Nat} {Ls : Array Slot} {z : Int32} {rest : List Value} {t : FieldType}
    (hret : meth.sig.returnType = some t) (ht : t = .boolean ∨ t = .byte ∨ t = .char ∨ t = .short) (hd : decode c.code pc = .ok (.ireturn, 1)) (hc : cells ≤ C) (hsl : slots ≤ S)
    (hq : ∃ h, T.heap = h ∧ Lk sA s h ∧ ZW.Warmed39 s.vm ∧ EW ZW a0 EL ∧ CHr ZW EL sA.vm sA.heap s.vm h ∧ Q (some (.int (nar t z))) T.heap locs) : GoW (Z := ZW) (EL := EL) p.tables e below sA Q C S (T.setTop (mkF m pc Ls (.int z :: rest))) := by
  obtain ⟨h, eT, ⟨vm0, k0, rfl, hS, hk⟩, hZ, hEL, H, hQ⟩ := hq
  subst eT
  obtain ⟨fs, hr, hrun, hended, r1, r2, r3, r4⟩ := X.leaveW hS hk (v := some (.int (nar t z))) (fun h => by rw [hret] at h; cases h)
  have hA : CHr ZW EL sA.vm sA.heap T.vm T.heap := H.trans (CHv.at (s := sA) (vm0 := vm0) X hZ hEL H.1)
  exact ⟨_, _, retN X hx hret ht hd hr, hrun, hended, _, _, rfl, hQ, hA, r1, r2, r3, r4.mono hc hsl⟩
/-- a String constant, read -/
theorem GoW.ldc (X : Stand p l e R s m args below meth c T locs cells slots) (hx : p.tables.exec = Jvm.exec) (hZ : ZW.Warmed39 s.vm) {own text : String} {index : Nat} (hown : s.vm.findClass own = some m.cls) (w : (Cond.stringLink own index text).before a0 ZW = true) (wS : ∀ a ∈ Bundle.stringAtoms, a.before a0 ZW = true)
    (eT : T.heap = h) (K : Lk sA s h) (hEL : EW ZW a0 EL) (hmem : (own, index) ∈ EL) (H : CHr ZW EL sA.vm sA.heap s.vm h)
    {vs : List Value} {z : Int32} (ht : (∀ c ∈ text.toList, c.toNat < 256) ∧ text.toList.map (fun c => Value.int (Jvm.Lit.byteI c.toNat.toUInt16)) = vs) (hz : ¬ z < 0) (hl : z.toNatClampNeg = vs.length)
    {pc pc' : Nat} {Ls : Array Slot} {st : List Value} (hd : decode c.code pc = .ok (.ldc index, 2)) (hp : pc + 2 = pc') {n : Nat} (hn : 4 * text.toList.length ≤ n) (hbig : n ≤ 536870912) (hc : cells + 2 ≤ R.cells) (hl' : slots + (n + 4) ≤ R.slots)
    (kk : ∀ (s' T' : State) (h' : Heap) (a b : Addr) (k : ClassId), Stand p l e R s' m args below meth c T' locs (cells + 2) (slots + (n + 4)) → ZW.Warmed39 s'.vm → s'.vm.findClass own = some m.cls → T'.heap = h' → Ext h h' → Lk sA s' h' → CHr ZW EL sA.vm sA.heap s'.vm h' →
      (∀ x, x < h.size → Safe ZW EL s.vm h x → Safe ZW EL s'.vm h' x) → (∀ x, Safe ZW EL s'.vm h' x → x ≠ a ∧ x ≠ b) → Exa ZW h' a "java/lang/String" → Fld ZW h' a "java/lang/String" "coder" "B" (.int 0) → Fld ZW h' a "java/lang/String" "value" "[B" (.ref b) → Arv ZW h' b k .byte z vs (.int 0) →
      GoW (Z := ZW) (EL := EL) p.tables e below sA Q C S (T'.setTop (mkF m pc' Ls (.ref a :: st)))) : GoW (Z := ZW) (EL := EL) p.tables e below sA Q C S (T.setTop (mkF m pc Ls st)) := by
  obtain ⟨vm0, k0, rfl, hS, hk⟩ := K
  subst hp
  obtain ⟨a, T', h', k1, b, k, X', e', E, hS', hk', hZ', hf', x1, x2, x3, x4, -, -, hC, -, hN, st'⟩ := ldcCH X hx hZ hown w wS eT hS hk hEL hmem H.1 ht hz hl (g := mkF m pc Ls st) rfl hd hn hbig hc hl'
  obtain ⟨t, o, q1, q2⟩ := kk (sA.setVm T'.vm) T' h' a b k X' hZ' hf' e' E ⟨T'.vm, k1, rfl, hS', hk'⟩ (H.trans hC) (fun x hx S => hC.safe hx S) hN x1 x2 x3 x4
  exact ⟨t, o, st' _ q1, q2⟩
/-- invokestatic of a callee that may book constants -/
theorem GoW.callSW (X : Stand p l e R s m args below meth c T locs cells slots) (hx : p.tables.exec = Jvm.exec) (hZ : ZW.Warmed39 s.vm) {own : String} {index : Nat} {y : MethodName} {bytes : ByteArray} {maxL : Nat} {ret : Option FieldType} {rm : Room} {Q' : Option Value → Heap → List Loc → Prop}
    (hown : s.vm.findClass own = some m.cls) (w1 : (Cond.methodLink own index y).before a0 ZW = true) (w2 : (Cond.static y).before a0 ZW = true) (w3 : (Cond.initialized y.cls).before a0 ZW = true)
    (w4 : (Cond.code y bytes maxL ret).before a0 ZW = true) (hy : y.cls ≠ "java/lang/invoke/MethodHandle" ∧ y.cls ≠ "java/lang/invoke/VarHandle")
    (eT : T.heap = h) (K : Lk sA s h) (hEL : EW ZW a0 EL) (H : CHr ZW EL sA.vm sA.heap s.vm h) {pc : Nat} {Ls : Array Slot} {argsL rest st : List Value} {W : Nat} {ps : List FieldType} (hM : ConW l ZW EL y bytes maxL ret rm argsL.toArray h Q') (hd : decode c.code pc = .ok (.invokestatic index, 3))
    (hsz : Ls.size = c.maxLocals) (hst : st = argsL.reverse ++ rest) (hpd : parseMethodDescriptor y.desc = some ⟨ps, ret⟩) (hlen : argsL.length = ps.length) (hW : (rest.map fun v => v.category).sum = W)
    (hf : rm.frames + 1 ≤ R.frames) (hl : W + (maxL + 11) + rm.locals ≤ R.locals) (hc : cells + rm.cells ≤ R.cells) (hn : slots + rm.slots ≤ R.slots)
    (k : ∀ (v : Option Value) (s' T' : State) (L' : List Loc), Stand p l e R s' m args below meth c T' (locs ++ L') (cells + rm.cells) (slots + rm.slots) → ZW.Warmed39 s'.vm → s'.vm.findClass own = some m.cls → Lk sA s' T'.heap → CHr ZW EL sA.vm sA.heap s'.vm T'.heap → (∀ x, x < h.size → Safe ZW EL s.vm h x → Safe ZW EL s'.vm T'.heap x) → Q' v T'.heap L' →
      GoW (Z := ZW) (EL := EL) p.tables e below sA Q C S (T'.setTop (mkF m (pc + 3) Ls (v.toList ++ rest)))) :
    GoW (Z := ZW) (EL := EL) p.tables e below sA Q C S (T.setTop (mkF m pc Ls st)) := by
  obtain ⟨vm0, k0, rfl, hS, hk⟩ := K
  obtain ⟨v, vm1, ⟨T', L', kc, kn⟩, -, X', hS', hgr, ⟨Lc, hQ, l3, y3, z3, hC⟩, st'⟩ := callSS X hx hown (mvT hZ w1) (mvT hZ w2) (mvT hZ w3) (mvT hZ w4) hy (backOfSH (W := W) hM hZ w4 w3 hf hl hEL H.1) (g := mkF m pc Ls st) rfl hsz (argsL := argsL) (rest := rest) (lenOf hpd hlen) hst (by show 2 * 0 + _ ≤ _; rw [hW]; omega) hd (fun _ _ => ⟨rfl, eT, hc, hn⟩)
  dsimp only [Pt.U, Pt.locs, Pt.cells, Pt.slots] at X' l3 y3 z3 st' hQ hS' hgr hC
  subst l3 y3 z3
  have hZ' : ZW.Warmed39 T'.vm := State.Warmed39.trans (t := sA.setVm vm0) hZ hS'.1
  obtain ⟨t, o, q1, q2⟩ := k v (sA.setVm T'.vm) T' Lc X' hZ' (by rw [show (sA.setVm T'.vm).vm = T'.vm from rfl, hS'.1.alike.findClass]; exact hown) ⟨T'.vm, _, rfl, hS.trans hS' (Nat.le_trans hk (by rw [← eT]; exact hgr)), Nat.le_refl _⟩ (H.trans hC) (fun x hx S => hC.safe hx S) hQ
  exact ⟨t, o, st'.trans q1, q2⟩
end RetW
end Jvm.OwnKit
namespace Jvm.Pilot.@@N@@
open Jvm Jvm.ClassFile Sem Op Lib Jvm.Free Jvm.Stand Jvm.LawKit Jvm.RoadKit Jvm.OwnKit Bundle Jvm.Pilot.@@N@@.Jvm.D
theorem wi {a0 : Array Value} {Z : State} (hw : ∀ d ∈ tables_1, d.before a0 Z = true) {d : Jvm.Cond} (i : Nat) (h : tables_1[i]? = some d) : d.before a0 Z = true := hw d (List.mem_of_getElem? h)
abbrev kS : String := "java/lang/String"
def own_l (l : List Int32) (i : Nat) : Int32 := l.getD i 0
def own_ch (i : Int32) : Int32 := if (i &&& (3 : Int32)).toInt = 0 then (32 : Int32) else nar .char ((((i.toUInt32 >>> ((2 : Int32) &&& 31).toUInt32).toInt32) &&& (255 : Int32)).toUInt32.toUInt16.toUInt32.toInt32)
theorem own_nc {c : Int32} (h : 0 ≤ c.toInt ∧ c.toInt ≤ 255) : nar .char c = c := by
  have := c_i2c c
  exact Int32.toInt_inj.mp (show c.toUInt32.toUInt16.toUInt32.toInt32.toInt = c.toInt by omega)
theorem own_ch_r (i : Int32) : 0 ≤ (own_ch i).toInt ∧ (own_ch i).toInt ≤ 255 := by
  unfold own_ch
  split
  · decide
  · generalize (i.toUInt32 >>> ((2 : Int32) &&& 31).toUInt32).toInt32 = y
    have h1 := c_mask y (255 : Int32) 8 (by decide) (by decide)
    have h2 : 0 ≤ (y &&& (255 : Int32)).toInt ∧ (y &&& (255 : Int32)).toInt ≤ 255 := by omega
    have h3 : ((y &&& (255 : Int32)).toUInt32.toUInt16.toUInt32.toInt32) = y &&& (255 : Int32) := own_nc h2
    rw [h3, own_nc h2]; exact h2
def own_bad (c : Int32) : Int32 := if c.toInt = 9 ∨ c.toInt = 10 ∨ c.toInt = 13 then 1 else 0
theorem own_bad0 {c : Int32} (h : (own_bad c).toInt = 0) : ¬ c.toInt = 9 ∧ ¬ c.toInt = 10 ∧ ¬ c.toInt = 13 := by
  unfold own_bad at h
  split at h
  · exact absurd h (by decide)
  · omega
def own_sp (c : Int32) : Int32 := if c.toInt = 32 ∨ c.toInt = 9 then 1 else 0
theorem own_sp0 {c : Int32} (h : ¬ c.toInt = 32 ∧ ¬ c.toInt = 9) : (own_sp c).toInt = 0 := by
  unfold own_sp; rw [if_neg (by omega)]; rfl
def own_lo (g : Nat → Int32) (i : Nat) : Int32 := nar .byte ((g i).toInt8.toInt32)
theorem own_loS (gD g : Nat → Int32) (k : Nat) (v : Int32) (hv : g k = v) (h : ∀ i, i < k → gD i = own_lo g i) : ∀ i, i < k + 1 → Jvm.OwnKit.upI gD k (nar .byte (v.toInt8.toInt32)) i = own_lo g i := by
  intro i hi
  unfold Jvm.OwnKit.upI
  by_cases e : i = k
  · subst e; rw [if_pos rfl, own_lo, hv]
  · rw [if_neg e]; exact h i (by omega)
theorem own_lo_v (g : Nat → Int32) (k : Nat) : own_lo g k = (g k).toInt8.toInt32 := by
  show ((g k).toInt8.toInt32).toInt8.toInt32 = _
  rw [Int8.toInt8_toInt32]
theorem own_chr (g : Nat → Int32) (k : Nat) (h : 0 ≤ (g k).toInt ∧ (g k).toInt ≤ 255) : nar .char (((own_lo g k) &&& (255 : Int32)).toUInt32.toUInt16.toUInt32.toInt32) = g k := by
  have e : (own_lo g k) &&& (255 : Int32) = g k := by
    have h1 := c_mask (own_lo g k) (255 : Int32) 8 (by decide) (by decide)
    have h2 := c_i2b (g k)
    rw [own_lo_v] at h1 ⊢
    exact Int32.toInt_inj.mp (by omega)
  rw [e]
  have h3 : ((g k).toUInt32.toUInt16.toUInt32.toInt32) = g k := own_nc h
  rw [h3, own_nc h]
theorem own_lo_ne (g : Nat → Int32) (k : Nat) (c : Int32) (h : 0 ≤ (g k).toInt ∧ (g k).toInt ≤ 255) (hc : 0 ≤ c.toInt ∧ c.toInt ≤ 127) (hn : ¬ (g k).toInt = c.toInt) : ¬ (own_lo g k).toInt = (c.toInt8.toInt32).toInt := by
  rw [own_lo_v]
  have h1 := c_i2b (g k)
  have h2 := c_i2b c
  omega
theorem own_shr0 (x : Int32) : x >>> ((0 : Int32) &&& 31) = x := by
  have : ((0 : Int32) &&& 31) = 0 := by decide
  rw [this]; simp
theorem own_n3 {x : Int32} (h : 0 ≤ x.toInt ∧ x.toInt ≤ 3) (h0 : ¬ x.toInt = 0) : x = 1 ∨ x = 2 ∨ x = 3 := by
  rcases (by omega : x.toInt = 1 ∨ x.toInt = 2 ∨ x.toInt = 3) with q | q | q
  · exact Or.inl (Int32.toInt_inj.mp q)
  · exact Or.inr (Or.inl (Int32.toInt_inj.mp q))
  · exact Or.inr (Or.inr (Int32.toInt_inj.mp q))
theorem own_rg1 {a : Int32} {P : Int32 → Prop} (ha : P a) : ∀ i, i < 1 → P (own_l [a] i) := by
  intro i hi
  have q : i = 0 := by omega
  subst q; exact ha
theorem own_rg2 {a b : Int32} {P : Int32 → Prop} (ha : P a) (hb' : P b) : ∀ i, i < 2 → P (own_l [a, b] i) := by
  intro i hi
  rcases (by omega : i = 0 ∨ i = 1) with rfl | rfl
  · exact ha
  · exact hb'
theorem own_rg3 {a b c : Int32} {P : Int32 → Prop} (ha : P a) (hb' : P b) (hc : P c) : ∀ i, i < 3 → P (own_l [a, b, c] i) := by
  intro i hi
  rcases (by omega : i = 0 ∨ i = 1 ∨ i = 2) with rfl | rfl | rfl
  · exact ha
  · exact hb'
  · exact hc
def own_is (g : Nat → Int32) (s l n : Nat) (gc : Nat → Int32) : Int32 := if l = n ∧ ∀ j, j < n → (g (s + j)).toInt = (gc j).toInt then 1 else 0
theorem own_is_nar (g : Nat → Int32) (s l n : Nat) (gc : Nat → Int32) : nar .boolean (own_is g s l n gc) = own_is g s l n gc := by
  unfold own_is; split <;> rfl
def own_f (g : Nat → Int32) (s l : Nat) (gc : Nat → Int32) (m : Nat) : Int32 := if ∀ j, j < m → j < l → (g (s + j)).toInt = (gc j).toInt then 1 else 0
theorem own_f0 (g : Nat → Int32) (s l : Nat) (gc : Nat → Int32) : own_f g s l gc 0 = 1 := by
  unfold own_f; rw [if_pos]; intro j hj; exact absurd hj (by omega)
theorem own_f_skip (g : Nat → Int32) (s l : Nat) (gc : Nat → Int32) (k : Nat) (h : ¬ k < l) : own_f g s l gc (k + 1) = own_f g s l gc k := by
  unfold own_f
  refine ite_congr (propext ⟨fun q j hj => q j (by omega), fun q j hj hl => q j (by omega) hl⟩) (fun _ => rfl) (fun _ => rfl)
theorem own_fT {g : Nat → Int32} {s l : Nat} {gc : Nat → Int32} {k : Nat} (h : ¬ (own_f g s l gc k).toInt = 0) : ∀ j, j < k → j < l → (g (s + j)).toInt = (gc j).toInt := by
  unfold own_f at h
  split at h
  · assumption
  · exact absurd rfl h
theorem own_f_one (g : Nat → Int32) (s l : Nat) (gc : Nat → Int32) (k : Nat) (h1 : ¬ (own_f g s l gc k).toInt = 0) (h2 : (g (s + k)).toInt = (gc k).toInt) : own_f g s l gc (k + 1) = 1 := by
  have h3 := own_fT h1
  unfold own_f; rw [if_pos]
  intro j hj hl
  by_cases e : j = k
  · rw [e]; exact h2
  · exact h3 j (by omega) hl
theorem own_f_z1 (g : Nat → Int32) (s l : Nat) (gc : Nat → Int32) (k : Nat) (h1 : (own_f g s l gc k).toInt = 0) : own_f g s l gc (k + 1) = 0 := by
  unfold own_f; rw [if_neg]
  intro q
  have : own_f g s l gc k = 1 := by unfold own_f; rw [if_pos]; exact fun j hj hl => q j (by omega) hl
  rw [this] at h1; exact absurd h1 (by decide)
theorem own_f_z2 (g : Nat → Int32) (s l : Nat) (gc : Nat → Int32) (k : Nat) (hk : k < l) (h2 : ¬ (g (s + k)).toInt = (gc k).toInt) : own_f g s l gc (k + 1) = 0 := by
  unfold own_f; rw [if_neg]
  intro q; exact h2 (q k (by omega) hk)
theorem own_f_is (g : Nat → Int32) (s l n : Nat) (gc : Nat → Int32) (h : l = n) (hn : n ≤ 4) : own_f g s l gc 4 = own_is g s l n gc := by
  unfold own_f own_is
  refine ite_congr (propext ⟨fun q => ⟨h, fun j hj => q j (by omega) (by omega)⟩, fun q j _ hl => q.2 j (by omega)⟩) (fun _ => rfl) (fun _ => rfl)
/-- what `predefined` answers -/
def own_pre (g : Nat → Int32) (s l : Nat) : Int32 :=
  if l = 2 ∧ (g (s + 0)).toInt = 108 ∧ (g (s + 1)).toInt = 116 then 60
  else if l = 2 ∧ (g (s + 0)).toInt = 103 ∧ (g (s + 1)).toInt = 116 then 62
  else if l = 3 ∧ (g (s + 0)).toInt = 97 ∧ (g (s + 1)).toInt = 109 ∧ (g (s + 2)).toInt = 112 then 38
  else if l = 4 ∧ (g (s + 0)).toInt = 97 ∧ (g (s + 1)).toInt = 112 ∧ (g (s + 2)).toInt = 111 ∧ (g (s + 3)).toInt = 115 then 39
  else if l = 4 ∧ (g (s + 0)).toInt = 113 ∧ (g (s + 1)).toInt = 117 ∧ (g (s + 2)).toInt = 111 ∧ (g (s + 3)).toInt = 116 then 34
  else -1
theorem own_isT {g : Nat → Int32} {s l n : Nat} {gc : Nat → Int32} (h : ¬ (own_is g s l n gc).toInt = 0) : l = n ∧ ∀ j, j < n → (g (s + j)).toInt = (gc j).toInt := by
  unfold own_is at h
  split at h
  · assumption
  · exact absurd rfl h
theorem own_isF {g : Nat → Int32} {s l n : Nat} {gc : Nat → Int32} (h : (own_is g s l n gc).toInt = 0) : ¬ (l = n ∧ ∀ j, j < n → (g (s + j)).toInt = (gc j).toInt) := by
  unfold own_is at h
  split at h
  · exact absurd h (by decide)
  · assumption
theorem own_rg2j {g : Nat → Int32} {s : Nat} {a b : Int32} (k0 : (g (s + 0)).toInt = a.toInt) (k1 : (g (s + 1)).toInt = b.toInt) : ∀ j, j < 2 → (g (s + j)).toInt = (own_l [a, b] j).toInt := by
  intro j hj
  rcases (by omega : j = 0 ∨ j = 1) with rfl | rfl
  · exact k0
  · exact k1
theorem own_rg3j {g : Nat → Int32} {s : Nat} {a b c : Int32} (k0 : (g (s + 0)).toInt = a.toInt) (k1 : (g (s + 1)).toInt = b.toInt) (k2 : (g (s + 2)).toInt = c.toInt) : ∀ j, j < 3 → (g (s + j)).toInt = (own_l [a, b, c] j).toInt := by
  intro j hj
  rcases (by omega : j = 0 ∨ j = 1 ∨ j = 2) with rfl | rfl | rfl
  · exact k0
  · exact k1
  · exact k2
theorem own_rg4j {g : Nat → Int32} {s : Nat} {a b c d : Int32} (k0 : (g (s + 0)).toInt = a.toInt) (k1 : (g (s + 1)).toInt = b.toInt) (k2 : (g (s + 2)).toInt = c.toInt) (k3 : (g (s + 3)).toInt = d.toInt) : ∀ j, j < 4 → (g (s + j)).toInt = (own_l [a, b, c, d] j).toInt := by
  intro j hj
  rcases (by omega : j = 0 ∨ j = 1 ∨ j = 2 ∨ j = 3) with rfl | rfl | rfl | rfl
  · exact k0
  · exact k1
  · exact k2
  · exact k3
theorem own_isT2 {g : Nat → Int32} {s l : Nat} {a b : Int32} {x0 x1 : Int} (ha' : a.toInt = x0) (hb' : b.toInt = x1) (h : ¬ (own_is g s l 2 (own_l [a, b])).toInt = 0) : l = 2 ∧ (g (s + 0)).toInt = x0 ∧ (g (s + 1)).toInt = x1 := by
  have q := own_isT h
  exact ⟨q.1, (q.2 0 (by omega)).trans ha', (q.2 1 (by omega)).trans hb'⟩
theorem own_isF2 {g : Nat → Int32} {s l : Nat} {a b : Int32} {x0 x1 : Int} (ha' : a.toInt = x0) (hb' : b.toInt = x1) (h : (own_is g s l 2 (own_l [a, b])).toInt = 0) : ¬ (l = 2 ∧ (g (s + 0)).toInt = x0 ∧ (g (s + 1)).toInt = x1) := by
  intro q
  refine own_isF h ⟨q.1, own_rg2j (q.2.1.trans ha'.symm) (q.2.2.trans hb'.symm)⟩
theorem own_isT3 {g : Nat → Int32} {s l : Nat} {a b c : Int32} {x0 x1 x2 : Int} (ha' : a.toInt = x0) (hb' : b.toInt = x1) (hc' : c.toInt = x2) (h : ¬ (own_is g s l 3 (own_l [a, b, c])).toInt = 0) : l = 3 ∧ (g (s + 0)).toInt = x0 ∧ (g (s + 1)).toInt = x1 ∧ (g (s + 2)).toInt = x2 := by
  have q := own_isT h
  exact ⟨q.1, (q.2 0 (by omega)).trans ha', (q.2 1 (by omega)).trans hb', (q.2 2 (by omega)).trans hc'⟩
theorem own_isF3 {g : Nat → Int32} {s l : Nat} {a b c : Int32} {x0 x1 x2 : Int} (ha' : a.toInt = x0) (hb' : b.toInt = x1) (hc' : c.toInt = x2) (h : (own_is g s l 3 (own_l [a, b, c])).toInt = 0) : ¬ (l = 3 ∧ (g (s + 0)).toInt = x0 ∧ (g (s + 1)).toInt = x1 ∧ (g (s + 2)).toInt = x2) := by
  intro q
  refine own_isF h ⟨q.1, own_rg3j (q.2.1.trans ha'.symm) (q.2.2.1.trans hb'.symm) (q.2.2.2.trans hc'.symm)⟩
theorem own_isT4 {g : Nat → Int32} {s l : Nat} {a b c d : Int32} {x0 x1 x2 x3 : Int} (ha' : a.toInt = x0) (hb' : b.toInt = x1) (hc' : c.toInt = x2) (hd' : d.toInt = x3) (h : ¬ (own_is g s l 4 (own_l [a, b, c, d])).toInt = 0) : l = 4 ∧ (g (s + 0)).toInt = x0 ∧ (g (s + 1)).toInt = x1 ∧ (g (s + 2)).toInt = x2 ∧ (g (s + 3)).toInt = x3 := by
  have q := own_isT h
  exact ⟨q.1, (q.2 0 (by omega)).trans ha', (q.2 1 (by omega)).trans hb', (q.2 2 (by omega)).trans hc', (q.2 3 (by omega)).trans hd'⟩
theorem own_isF4 {g : Nat → Int32} {s l : Nat} {a b c d : Int32} {x0 x1 x2 x3 : Int} (ha' : a.toInt = x0) (hb' : b.toInt = x1) (hc' : c.toInt = x2) (hd' : d.toInt = x3) (h : (own_is g s l 4 (own_l [a, b, c, d])).toInt = 0) : ¬ (l = 4 ∧ (g (s + 0)).toInt = x0 ∧ (g (s + 1)).toInt = x1 ∧ (g (s + 2)).toInt = x2 ∧ (g (s + 3)).toInt = x3) := by
  intro q
  refine own_isF h ⟨q.1, own_rg4j (q.2.1.trans ha'.symm) (q.2.2.1.trans hb'.symm) (q.2.2.2.1.trans hc'.symm) (q.2.2.2.2.trans hd'.symm)⟩
theorem own_EW {a0 : Array Value} {Z : State} (hw : ∀ d ∈ tables_1, d.before a0 Z = true) : EW Z a0 consts_1 := (EW.cons (wi hw 5 rfl) (by decide +kernel) (EW.cons (wi hw 37 rfl) (by decide +kernel) (EW.cons (wi hw 51 rfl) (by decide +kernel) (EW.cons (wi hw 52 rfl) (by decide +kernel) (EW.cons (wi hw 53 rfl) (by decide +kernel) (EW.cons (wi hw 54 rfl) (by decide +kernel) EW.nil))))))
theorem own_wS {a0 : Array Value} {Z : State} (hw : ∀ d ∈ tables_1, d.before a0 Z = true) : ∀ a ∈ Bundle.stringAtoms, a.before a0 Z = true := by
  intro a ha
  simp only [Bundle.stringAtoms, List.mem_cons, List.not_mem_nil, or_false] at ha
  rcases ha with rfl | rfl | rfl | rfl | rfl | rfl | rfl
  · exact wi hw 6 rfl
  · exact wi hw 7 rfl
  · exact wi hw 0 rfl
  · exact wi hw 8 rfl
  · exact wi hw 9 rfl
  · exact wi hw 10 rfl
  · exact wi hw 11 rfl
theorem d9_0 : decode jdk_42_method_152_code 0 = .ok (.getstatic 38, 3) := by decide +kernel
theorem d9_3 : decode jdk_42_method_152_code 3 = .ok (.ifCond .eq 10, 3) := by decide +kernel
theorem d9_6 : decode jdk_42_method_152_code 6 = .ok (.aload_n 0, 1) := by decide +kernel
theorem d9_7 : decode jdk_42_method_152_code 7 = .ok (.getfield 15, 3) := by decide +kernel
theorem d9_10 : decode jdk_42_method_152_code 10 = .ok (.goto 4, 3) := by decide +kernel
theorem d9_14 : decode jdk_42_method_152_code 14 = .ok (.ireturn, 1) := by decide +kernel
theorem ef_rm_coder (m : MethodId) (x0 : Addr) : entryFrame m #[(.ref x0)] 1 = mkF m 0 #[.val (.ref x0)] [] := by first | (simp [entryFrame, mkF, argsToLocals, Value.category]; done) | rfl
theorem pn_java_lang_String : plainName "java/lang/String" = true := by first | (simp [plainName, overriddenIn]; done) | decide +kernel
abbrev Q_rm_coder (Z : State) (a1 : Addr) (G1 : Int32) (h0 : Heap) (n0 : Nat) : Option Value → Heap → List Loc → Prop := fun v h L => v = some (.int (0 : Int32)) ∧ Fr n0 L ∧ h = h0
set_option maxRecDepth 65536 in
set_option maxHeartbeats 40000000 in
theorem rm_coder (l : Launch) (Z : State) (a0 : Array Value) (hw : ∀ d ∈ tables_1, d.before a0 Z = true) (a1 : Addr) (G1 : Int32) (h0 : Heap) (n0 : Nat) (Z0 : n0 ≤ h0.size) (P0 : Fld Z h0 a1 kS "coder" "B" (.int (0 : Int32))) (P1 : Old Z n0 h0) (O2 : Sta Z Z.heap "java/lang/String" "COMPACT_STRINGS" "Z" (.int G1)) (hG1 : ¬ G1.toInt = 0) :
    Con l Z (⟨"java/lang/String", "coder", "()B"⟩ : MethodName) jdk_42_method_152_code 1 (some .byte) ({ frames := 0, cells := 0, slots := 0, locals := 0 } : Room) #[(.ref a1)] h0 (Q_rm_coder Z a1 G1 h0 n0) := by
  refine meet (y := (⟨"java/lang/String", "coder", "()B"⟩ : MethodName)) (Q := Q_rm_coder Z a1 G1 h0 n0) (plainFor_of_name pn_java_lang_String) (fun m => ef_rm_coder m a1) ?_
  intro p e s m below meth c T0 hx hby hml hZ hown hnm hret hlk X0 e0
  have N0 := Fr.nil n0
  obtain ⟨T1, X1, e1, st1⟩ := getS (host := "") X0 hx hZ hown (wi hw 22 rfl) Via.refl e0 (O2.ext P1.2) (g := (mkF m 0 #[.val (.ref a1)] [])) rfl (hb hby d9_0)
  refine Go.of st1 ?_
  show Go p.tables e below s _ _ _ (T1.setTop (mkF m 3 #[.val (.ref a1)] [(.int G1)]))
  have hc3 : ¬ (G1.toInt = (0 : Int)) := hG1
  refine g_ifNo X1 hx hby d9_3 (pc' := 6) (feq (show ¬ (G1 = (0 : Int32)) from fun q => hc3 (congrArg Int32.toInt q))).1 rfl ?_
  refine g_aloadN X1 hx hby d9_6 (pc' := 7) rfl rfl rfl ?_
  refine g_getf X1 hx hby hZ hown (host := "") (Or.inl (wi hw 23 rfl)) Via.refl e1 P0 d9_7 (pc' := 10) rfl ?_
  intro T2 X2 e2
  refine g_goto X2 hx hby d9_10 (pc' := 14) (by decide) (by decide) ?_
  refine Go.retZ X2 hx hlk hret (by simp) (hb hby d9_14) (by decide) (by decide) ?_
  exact ⟨rfl, N0, e2⟩
theorem d8_0 : decode jdk_42_method_54_code 0 = .ok (.aload_n 0, 1) := by decide +kernel
theorem d8_1 : decode jdk_42_method_54_code 1 = .ok (.getfield 9, 3) := by decide +kernel
theorem d8_4 : decode jdk_42_method_54_code 4 = .ok (.arraylength, 1) := by decide +kernel
theorem d8_5 : decode jdk_42_method_54_code 5 = .ok (.aload_n 0, 1) := by decide +kernel
theorem d8_6 : decode jdk_42_method_54_code 6 = .ok (.invokevirtual 335, 3) := by decide +kernel
theorem pd0 : parseMethodDescriptor "()B" = some ⟨[], some .byte⟩ := by decide +kernel
theorem d8_9 : decode jdk_42_method_54_code 9 = .ok (.ishr, 1) := by decide +kernel
theorem d8_10 : decode jdk_42_method_54_code 10 = .ok (.ireturn, 1) := by decide +kernel
theorem ef_rm_len (m : MethodId) (x0 : Addr) : entryFrame m #[(.ref x0)] 1 = mkF m 0 #[.val (.ref x0)] [] := by first | (simp [entryFrame, mkF, argsToLocals, Value.category]; done) | rfl
abbrev Q_rm_len (Z : State) (a1 : Addr) (x1 : Addr) (n1 : Nat) (gc : Nat → Int32) (G1 : Int32) (h0 : Heap) (n0 : Nat) : Option Value → Heap → List Loc → Prop := fun v h L => v = some (.int ((n1 : Nat).toInt32)) ∧ Fr n0 L ∧ h = h0
set_option maxRecDepth 65536 in
set_option maxHeartbeats 40000000 in
theorem rm_len (l : Launch) (Z : State) (a0 : Array Value) (hw : ∀ d ∈ tables_1, d.before a0 Z = true) (a1 : Addr) (x1 : Addr) (n1 : Nat) (gc : Nat → Int32) (G1 : Int32) (h0 : Heap) (n0 : Nat) (Z0 : n0 ≤ h0.size) (P0 : Exa Z h0 a1 kS) (P1 : Fld Z h0 a1 kS "value" "[B" (.ref x1)) (P2 : Fld Z h0 a1 kS "coder" "B" (.int (0 : Int32))) (P3 : ArF Z h0 x1 .byte n1 (fun i => .int ((own_lo gc) i))) (P4 : Old Z n0 h0) (O2 : Sta Z Z.heap "java/lang/String" "COMPACT_STRINGS" "Z" (.int G1)) (hG1 : ¬ G1.toInt = 0) :
    Con l Z (⟨"java/lang/String", "length", "()I"⟩ : MethodName) jdk_42_method_54_code 1 (some .int) ({ frames := 1, cells := 0, slots := 0, locals := 13 } : Room) #[(.ref a1)] h0 (Q_rm_len Z a1 x1 n1 gc G1 h0 n0) := by
  refine meet (y := (⟨"java/lang/String", "length", "()I"⟩ : MethodName)) (Q := Q_rm_len Z a1 x1 n1 gc G1 h0 n0) (plainFor_of_name pn_java_lang_String) (fun m => ef_rm_len m a1) ?_
  intro p e s m below meth c T0 hx hby hml hZ hown hnm hret hlk X0 e0
  have N0 := Fr.nil n0
  refine g_aloadN X0 hx hby d8_0 (pc' := 1) rfl rfl rfl ?_
  refine g_getf X0 hx hby hZ hown (host := "") (Or.inl (wi hw 24 rfl)) Via.refl e0 P1 d8_1 (pc' := 4) rfl ?_
  intro T1 X1 e1
  refine Go.alen X1 hx hZ e1 P3 (z := ((n1 : Nat).toInt32)) rfl (hb hby d8_4) (pc' := 5) rfl ?_
  refine g_aloadN X1 hx hby d8_5 (pc' := 6) rfl rfl rfl ?_
  refine Go.callV X1 hx hZ hown (wi hw 46 rfl) (wi hw 47 rfl) (notFace_of_selects (args := #[]) (mvT hZ (wi hw 49 rfl))) (wi hw 49 rfl) (wi hw 48 rfl) (wi hw 6 rfl) (wi hw 50 rfl) (by decide) e1 (a := a1) (argsL := []) (rest := [(.int ((n1 : Nat).toInt32))]) (W := 1) P0 (rm_coder l Z a0 hw a1 G1 h0 n0 Z0 P2 P4 O2 hG1) (hb hby d8_6) (by rw [hml]; rfl) rfl pd0 rfl rfl (by decide) (by decide) (by decide) (by decide) ?_
  intro v2 T2 L2 X2 hQ2
  obtain ⟨rfl, Nq2, hh2⟩ := hQ2
  have N2 := Fr.app N0 Nq2
  refine Go.push (pc' := 9) rfl ?_
  refine g_ishr X2 hx hby d8_9 (pc' := 10) rfl rfl ?_
  refine Go.retI X2 hx hlk hret (hb hby d8_10) (by decide) (by decide) ?_
  exact ⟨(by rw [own_shr0]), N2, hh2⟩
theorem d3_0 : decode jdk_42_method_154_code 0 = .ok (.getstatic 38, 3) := by decide +kernel
theorem d3_3 : decode jdk_42_method_154_code 3 = .ok (.ifCond .eq 14, 3) := by decide +kernel
theorem d3_6 : decode jdk_42_method_154_code 6 = .ok (.aload_n 0, 1) := by decide +kernel
theorem d3_7 : decode jdk_42_method_154_code 7 = .ok (.getfield 15, 3) := by decide +kernel
theorem d3_10 : decode jdk_42_method_154_code 10 = .ok (.ifCond .ne 7, 3) := by decide +kernel
theorem d3_13 : decode jdk_42_method_154_code 13 = .ok (.iconst 1, 1) := by decide +kernel
theorem d3_14 : decode jdk_42_method_154_code 14 = .ok (.goto 4, 3) := by decide +kernel
theorem d3_18 : decode jdk_42_method_154_code 18 = .ok (.ireturn, 1) := by decide +kernel
theorem ef_rm_lat (m : MethodId) (x0 : Addr) : entryFrame m #[(.ref x0)] 1 = mkF m 0 #[.val (.ref x0)] [] := by first | (simp [entryFrame, mkF, argsToLocals, Value.category]; done) | rfl
abbrev Q_rm_lat (Z : State) (a1 : Addr) (G1 : Int32) (h0 : Heap) (n0 : Nat) : Option Value → Heap → List Loc → Prop := fun v h L => v = some (.int (1 : Int32)) ∧ Fr n0 L ∧ h = h0
set_option maxRecDepth 65536 in
set_option maxHeartbeats 40000000 in
theorem rm_lat (l : Launch) (Z : State) (a0 : Array Value) (hw : ∀ d ∈ tables_1, d.before a0 Z = true) (a1 : Addr) (G1 : Int32) (h0 : Heap) (n0 : Nat) (Z0 : n0 ≤ h0.size) (P0 : Fld Z h0 a1 kS "coder" "B" (.int (0 : Int32))) (P1 : Old Z n0 h0) (O2 : Sta Z Z.heap "java/lang/String" "COMPACT_STRINGS" "Z" (.int G1)) (hG1 : ¬ G1.toInt = 0) :
    Con l Z (⟨"java/lang/String", "isLatin1", "()Z"⟩ : MethodName) jdk_42_method_154_code 1 (some .boolean) ({ frames := 0, cells := 0, slots := 0, locals := 0 } : Room) #[(.ref a1)] h0 (Q_rm_lat Z a1 G1 h0 n0) := by
  refine meet (y := (⟨"java/lang/String", "isLatin1", "()Z"⟩ : MethodName)) (Q := Q_rm_lat Z a1 G1 h0 n0) (plainFor_of_name pn_java_lang_String) (fun m => ef_rm_lat m a1) ?_
  intro p e s m below meth c T0 hx hby hml hZ hown hnm hret hlk X0 e0
  have N0 := Fr.nil n0
  obtain ⟨T1, X1, e1, st1⟩ := getS (host := "") X0 hx hZ hown (wi hw 22 rfl) Via.refl e0 (O2.ext P1.2) (g := (mkF m 0 #[.val (.ref a1)] [])) rfl (hb hby d3_0)
  refine Go.of st1 ?_
  show Go p.tables e below s _ _ _ (T1.setTop (mkF m 3 #[.val (.ref a1)] [(.int G1)]))
  have hc3 : ¬ (G1.toInt = (0 : Int)) := hG1
  refine g_ifNo X1 hx hby d3_3 (pc' := 6) (feq (show ¬ (G1 = (0 : Int32)) from fun q => hc3 (congrArg Int32.toInt q))).1 rfl ?_
  refine g_aloadN X1 hx hby d3_6 (pc' := 7) rfl rfl rfl ?_
  refine g_getf X1 hx hby hZ hown (host := "") (Or.inl (wi hw 23 rfl)) Via.refl e1 P0 d3_7 (pc' := 10) rfl ?_
  intro T2 X2 e2
  have hc10 : (0 : Int) = (0 : Int) := by decide
  refine g_ifNo X2 hx hby d3_10 (pc' := 13) (teq (show (0 : Int32) = (0 : Int32) from Int32.toInt_inj.mp hc10)).2 rfl ?_
  refine g_iconst X2 hx hby d3_13 (pc' := 14) rfl (z := (1 : Int32)) rfl ?_
  refine g_goto X2 hx hby d3_14 (pc' := 18) (by decide) (by decide) ?_
  refine Go.retZ X2 hx hlk hret (by simp) (hb hby d3_18) (by decide) (by decide) ?_
  exact ⟨rfl, N0, e2⟩
theorem d6_0 : decode jdk_41_method_11_code 0 = .ok (.iload_n 0, 1) := by decide +kernel
theorem d6_1 : decode jdk_41_method_11_code 1 = .ok (.ifCond .lt 8, 3) := by decide +kernel
theorem d6_4 : decode jdk_41_method_11_code 4 = .ok (.iload_n 0, 1) := by decide +kernel
theorem d6_5 : decode jdk_41_method_11_code 5 = .ok (.iload_n 1, 1) := by decide +kernel
theorem d6_6 : decode jdk_41_method_11_code 6 = .ok (.if_icmp .lt 10, 3) := by decide +kernel
theorem d6_16 : decode jdk_41_method_11_code 16 = .ok (.iload_n 0, 1) := by decide +kernel
theorem d6_17 : decode jdk_41_method_11_code 17 = .ok (.ireturn, 1) := by decide +kernel
theorem ef_rm_ciN (m : MethodId) (x0 : Int32) (x1 : Int32) : entryFrame m #[(.int x0), (.int x1), .null] 3 = mkF m 0 #[.val (.int x0), .val (.int x1), .val .null] [] := by first | (simp [entryFrame, mkF, argsToLocals, Value.category]; done) | rfl
theorem pn_jdk_internal_util_Preconditions : plainName "jdk/internal/util/Preconditions" = true := by first | (simp [plainName, overriddenIn]; done) | decide +kernel
abbrev Q_rm_ciN (Z : State) (i1 : Int32) (i2 : Int32) (h0 : Heap) (n0 : Nat) : Option Value → Heap → List Loc → Prop := fun v h L => v = some (.int i1) ∧ Fr n0 L ∧ h = h0
set_option maxRecDepth 65536 in
set_option maxHeartbeats 40000000 in
theorem rm_ciN (l : Launch) (Z : State) (a0 : Array Value) (hw : ∀ d ∈ tables_1, d.before a0 Z = true) (i1 : Int32) (i2 : Int32) (h0 : Heap) (n0 : Nat) (Z0 : n0 ≤ h0.size) (y1 : 0 ≤ i1.toInt) (y2 : i1.toInt < i2.toInt) :
    Con l Z (⟨"jdk/internal/util/Preconditions", "checkIndex", "(IILjava/util/function/BiFunction;)I"⟩ : MethodName) jdk_41_method_11_code 3 (some .int) ({ frames := 0, cells := 0, slots := 0, locals := 0 } : Room) #[(.int i1), (.int i2), .null] h0 (Q_rm_ciN Z i1 i2 h0 n0) := by
  refine meet (y := (⟨"jdk/internal/util/Preconditions", "checkIndex", "(IILjava/util/function/BiFunction;)I"⟩ : MethodName)) (Q := Q_rm_ciN Z i1 i2 h0 n0) (plainFor_of_name pn_jdk_internal_util_Preconditions) (fun m => ef_rm_ciN m i1 i2) ?_
  intro p e s m below meth c T0 hx hby hml hZ hown hnm hret hlk X0 e0
  have N0 := Fr.nil n0
  refine g_iloadN X0 hx hby d6_0 (pc' := 1) rfl rfl ?_
  have hc1 : ¬ (i1.toInt < (0 : Int)) := by omega
  refine g_ifNo X0 hx hby d6_1 (pc' := 4) (flt (show ¬ (i1 < (0 : Int32)) from fun q => hc1 (Int32.lt_iff_toInt_lt.mp q))).1 rfl ?_
  refine g_iloadN X0 hx hby d6_4 (pc' := 5) rfl rfl ?_
  refine g_iloadN X0 hx hby d6_5 (pc' := 6) rfl rfl ?_
  have hc6 : i1.toInt < i2.toInt := by omega
  refine g_icmpYes X0 hx hby d6_6 (pc' := 16) (tlt (show i1 < i2 from Int32.lt_iff_toInt_lt.mpr hc6)).1 (by decide) (by decide) ?_
  refine g_iloadN X0 hx hby d6_16 (pc' := 17) rfl rfl ?_
  refine Go.retI X0 hx hlk hret (hb hby d6_17) (by decide) (by decide) ?_
  exact ⟨rfl, N0, e0⟩
theorem ef_rm_ciR (m : MethodId) (x0 : Int32) (x1 : Int32) (x2 : Addr) : entryFrame m #[(.int x0), (.int x1), (.ref x2)] 3 = mkF m 0 #[.val (.int x0), .val (.int x1), .val (.ref x2)] [] := by first | (simp [entryFrame, mkF, argsToLocals, Value.category]; done) | rfl
abbrev Q_rm_ciR (Z : State) (i1 : Int32) (i2 : Int32) (y3 : Addr) (h0 : Heap) (n0 : Nat) : Option Value → Heap → List Loc → Prop := fun v h L => v = some (.int i1) ∧ Fr n0 L ∧ h = h0
set_option maxRecDepth 65536 in
set_option maxHeartbeats 40000000 in
theorem rm_ciR (l : Launch) (Z : State) (a0 : Array Value) (hw : ∀ d ∈ tables_1, d.before a0 Z = true) (i1 : Int32) (i2 : Int32) (y3 : Addr) (h0 : Heap) (n0 : Nat) (Z0 : n0 ≤ h0.size) (y1 : 0 ≤ i1.toInt) (y2 : i1.toInt < i2.toInt) :
    Con l Z (⟨"jdk/internal/util/Preconditions", "checkIndex", "(IILjava/util/function/BiFunction;)I"⟩ : MethodName) jdk_41_method_11_code 3 (some .int) ({ frames := 0, cells := 0, slots := 0, locals := 0 } : Room) #[(.int i1), (.int i2), (.ref y3)] h0 (Q_rm_ciR Z i1 i2 y3 h0 n0) := by
  refine meet (y := (⟨"jdk/internal/util/Preconditions", "checkIndex", "(IILjava/util/function/BiFunction;)I"⟩ : MethodName)) (Q := Q_rm_ciR Z i1 i2 y3 h0 n0) (plainFor_of_name pn_jdk_internal_util_Preconditions) (fun m => ef_rm_ciR m i1 i2 y3) ?_
  intro p e s m below meth c T0 hx hby hml hZ hown hnm hret hlk X0 e0
  have N0 := Fr.nil n0
  refine g_iloadN X0 hx hby d6_0 (pc' := 1) rfl rfl ?_
  have hc1 : ¬ (i1.toInt < (0 : Int)) := by omega
  refine g_ifNo X0 hx hby d6_1 (pc' := 4) (flt (show ¬ (i1 < (0 : Int32)) from fun q => hc1 (Int32.lt_iff_toInt_lt.mp q))).1 rfl ?_
  refine g_iloadN X0 hx hby d6_4 (pc' := 5) rfl rfl ?_
  refine g_iloadN X0 hx hby d6_5 (pc' := 6) rfl rfl ?_
  have hc6 : i1.toInt < i2.toInt := by omega
  refine g_icmpYes X0 hx hby d6_6 (pc' := 16) (tlt (show i1 < i2 from Int32.lt_iff_toInt_lt.mpr hc6)).1 (by decide) (by decide) ?_
  refine g_iloadN X0 hx hby d6_16 (pc' := 17) rfl rfl ?_
  refine Go.retI X0 hx hlk hret (hb hby d6_17) (by decide) (by decide) ?_
  exact ⟨rfl, N0, e0⟩
theorem d5_0 : decode jdk_42_method_155_code 0 = .ok (.iload_n 0, 1) := by decide +kernel
theorem d5_1 : decode jdk_42_method_155_code 1 = .ok (.iload_n 1, 1) := by decide +kernel
theorem d5_2 : decode jdk_42_method_155_code 2 = .ok (.getstatic 1053, 3) := by decide +kernel
theorem d5_5 : decode jdk_42_method_155_code 5 = .ok (.invokestatic 1059, 3) := by decide +kernel
theorem pd1 : parseMethodDescriptor "(IILjava/util/function/BiFunction;)I" = some ⟨[.int, .int, (.object "java/util/function/BiFunction")], some .int⟩ := by decide +kernel
theorem d5_8 : decode jdk_42_method_155_code 8 = .ok (.pop, 1) := by decide +kernel
theorem d5_9 : decode jdk_42_method_155_code 9 = .ok (.return_, 1) := by decide +kernel
theorem ef_rm_ci (m : MethodId) (x0 : Int32) (x1 : Int32) : entryFrame m #[(.int x0), (.int x1)] 2 = mkF m 0 #[.val (.int x0), .val (.int x1)] [] := by first | (simp [entryFrame, mkF, argsToLocals, Value.category]; done) | rfl
abbrev Q_rm_ci (Z : State) (i1 : Int32) (i2 : Int32) (G3 : Value) (h0 : Heap) (n0 : Nat) : Option Value → Heap → List Loc → Prop := fun v h L => v = none ∧ Fr n0 L ∧ h = h0
set_option maxRecDepth 65536 in
set_option maxHeartbeats 40000000 in
theorem rm_ci (l : Launch) (Z : State) (a0 : Array Value) (hw : ∀ d ∈ tables_1, d.before a0 Z = true) (i1 : Int32) (i2 : Int32) (G3 : Value) (h0 : Heap) (n0 : Nat) (Z0 : n0 ≤ h0.size) (P0 : Old Z n0 h0) (y1 : 0 ≤ i1.toInt) (y2 : i1.toInt < i2.toInt) (O4 : Sta Z Z.heap "jdk/internal/util/Preconditions" "SIOOBE_FORMATTER" "Ljava/util/function/BiFunction;" G3) (rG3 : G3.isRef = true) :
    Con l Z (⟨"java/lang/String", "checkIndex", "(II)V"⟩ : MethodName) jdk_42_method_155_code 2 none ({ frames := 1, cells := 0, slots := 0, locals := 14 } : Room) #[(.int i1), (.int i2)] h0 (Q_rm_ci Z i1 i2 G3 h0 n0) := by
  refine meet (y := (⟨"java/lang/String", "checkIndex", "(II)V"⟩ : MethodName)) (Q := Q_rm_ci Z i1 i2 G3 h0 n0) (plainFor_of_name pn_java_lang_String) (fun m => ef_rm_ci m i1 i2) ?_
  intro p e s m below meth c T0 hx hby hml hZ hown hnm hret hlk X0 e0
  have N0 := Fr.nil n0
  refine g_iloadN X0 hx hby d5_0 (pc' := 1) rfl rfl ?_
  refine g_iloadN X0 hx hby d5_1 (pc' := 2) rfl rfl ?_
  rcases ref_cases rG3 with rfl | ⟨ga, rfl⟩
  · show Go p.tables e below s _ _ _ (T0.setTop (mkF m 2 #[.val (.int i1), .val (.int i2)] [(.int i2), (.int i1)]))
    obtain ⟨T1, X1, e1, st1⟩ := getS (host := "") X0 hx hZ hown (wi hw 32 rfl) Via.refl e0 (O4.ext P0.2) (g := (mkF m 2 #[.val (.int i1), .val (.int i2)] [(.int i2), (.int i1)])) rfl (hb hby d5_2)
    refine Go.of st1 ?_
    show Go p.tables e below s _ _ _ (T1.setTop (mkF m 5 #[.val (.int i1), .val (.int i2)] [.null, (.int i2), (.int i1)]))
    refine Go.callS X1 hx hZ hown (wi hw 34 rfl) (wi hw 35 rfl) (wi hw 33 rfl) (wi hw 36 rfl) (by decide) e1 (argsL := [(.int i1), (.int i2), .null]) (rest := []) (W := 0) (rm_ciN l Z a0 hw i1 i2 h0 n0 Z0 y1 y2) (hb hby d5_5) (by rw [hml]; rfl) rfl pd1 rfl rfl (by decide) (by decide) (by decide) (by decide) ?_
    intro v2 T2 L2 X2 hQ2
    obtain ⟨rfl, Nq2, hh2⟩ := hQ2
    have N2 := Fr.app N0 Nq2
    refine Go.push (pc' := 8) rfl ?_
    refine g_pop X2 hx hby d5_8 (pc' := 9) rfl rfl ?_
    refine Go.retV X2 hx hlk hret (hb hby d5_9) rfl (by decide) (by decide) ?_
    exact ⟨rfl, N2, hh2⟩
  · show Go p.tables e below s _ _ _ (T0.setTop (mkF m 2 #[.val (.int i1), .val (.int i2)] [(.int i2), (.int i1)]))
    obtain ⟨T3, X3, e3, st3⟩ := getS (host := "") X0 hx hZ hown (wi hw 32 rfl) Via.refl e0 (O4.ext P0.2) (g := (mkF m 2 #[.val (.int i1), .val (.int i2)] [(.int i2), (.int i1)])) rfl (hb hby d5_2)
    refine Go.of st3 ?_
    show Go p.tables e below s _ _ _ (T3.setTop (mkF m 5 #[.val (.int i1), .val (.int i2)] [(.ref ga), (.int i2), (.int i1)]))
    refine Go.callS X3 hx hZ hown (wi hw 34 rfl) (wi hw 35 rfl) (wi hw 33 rfl) (wi hw 36 rfl) (by decide) e3 (argsL := [(.int i1), (.int i2), (.ref ga)]) (rest := []) (W := 0) (rm_ciR l Z a0 hw i1 i2 ga h0 n0 Z0 y1 y2) (hb hby d5_5) (by rw [hml]; rfl) rfl pd1 rfl rfl (by decide) (by decide) (by decide) (by decide) ?_
    intro v4 T4 L4 X4 hQ4
    obtain ⟨rfl, Nq4, hh4⟩ := hQ4
    have N4 := Fr.app N0 Nq4
    refine Go.push (pc' := 8) rfl ?_
    refine g_pop X4 hx hby d5_8 (pc' := 9) rfl rfl ?_
    refine Go.retV X4 hx hlk hret (hb hby d5_9) rfl (by decide) (by decide) ?_
    exact ⟨rfl, N4, hh4⟩
theorem d4_0 : decode jdk_43_method_2_code 0 = .ok (.iload_n 1, 1) := by decide +kernel
theorem d4_1 : decode jdk_43_method_2_code 1 = .ok (.aload_n 0, 1) := by decide +kernel
theorem d4_2 : decode jdk_43_method_2_code 2 = .ok (.arraylength, 1) := by decide +kernel
theorem d4_3 : decode jdk_43_method_2_code 3 = .ok (.invokestatic 9, 3) := by decide +kernel
theorem pd2 : parseMethodDescriptor "(II)V" = some ⟨[.int, .int], none⟩ := by decide +kernel
theorem d4_6 : decode jdk_43_method_2_code 6 = .ok (.aload_n 0, 1) := by decide +kernel
theorem d4_7 : decode jdk_43_method_2_code 7 = .ok (.iload_n 1, 1) := by decide +kernel
theorem d4_8 : decode jdk_43_method_2_code 8 = .ok (.baload, 1) := by decide +kernel
theorem d4_9 : decode jdk_43_method_2_code 9 = .ok (.sipush 255, 3) := by decide +kernel
theorem d4_12 : decode jdk_43_method_2_code 12 = .ok (.iand, 1) := by decide +kernel
theorem d4_13 : decode jdk_43_method_2_code 13 = .ok (.i2c, 1) := by decide +kernel
theorem d4_14 : decode jdk_43_method_2_code 14 = .ok (.ireturn, 1) := by decide +kernel
theorem ef_rm_cl (m : MethodId) (x0 : Addr) (x1 : Int32) : entryFrame m #[(.ref x0), (.int x1)] 2 = mkF m 0 #[.val (.ref x0), .val (.int x1)] [] := by first | (simp [entryFrame, mkF, argsToLocals, Value.category]; done) | rfl
theorem pn_java_lang_StringLatin1 : plainName "java/lang/StringLatin1" = true := by first | (simp [plainName, overriddenIn]; done) | decide +kernel
abbrev Q_rm_cl (Z : State) (x1 : Addr) (i1 : Int32) (n1 : Nat) (gc : Nat → Int32) (k1 : Nat) (G3 : Value) (h0 : Heap) (n0 : Nat) : Option Value → Heap → List Loc → Prop := fun v h L => v = some (.int (gc k1)) ∧ Fr n0 L ∧ h = h0
set_option maxRecDepth 65536 in
set_option maxHeartbeats 40000000 in
theorem rm_cl (l : Launch) (Z : State) (a0 : Array Value) (hw : ∀ d ∈ tables_1, d.before a0 Z = true) (x1 : Addr) (i1 : Int32) (n1 : Nat) (gc : Nat → Int32) (k1 : Nat) (G3 : Value) (h0 : Heap) (n0 : Nat) (Z0 : n0 ≤ h0.size) (P0 : ArF Z h0 x1 .byte n1 (fun i => .int ((own_lo gc) i))) (P1 : Old Z n0 h0) (hk : i1.toInt = (k1 : Int)) (hkn : k1 < n1) (hn1 : 1 ≤ n1) (hn3 : n1 ≤ 10) (hgc : ∀ i, i < n1 → 0 ≤ (gc i).toInt ∧ (gc i).toInt ≤ 255) (O4 : Sta Z Z.heap "jdk/internal/util/Preconditions" "SIOOBE_FORMATTER" "Ljava/util/function/BiFunction;" G3) (rG3 : G3.isRef = true) :
    Con l Z (⟨"java/lang/StringLatin1", "charAt", "([BI)C"⟩ : MethodName) jdk_43_method_2_code 2 (some .char) ({ frames := 2, cells := 0, slots := 0, locals := 27 } : Room) #[(.ref x1), (.int i1)] h0 (Q_rm_cl Z x1 i1 n1 gc k1 G3 h0 n0) := by
  refine meet (y := (⟨"java/lang/StringLatin1", "charAt", "([BI)C"⟩ : MethodName)) (Q := Q_rm_cl Z x1 i1 n1 gc k1 G3 h0 n0) (plainFor_of_name pn_java_lang_StringLatin1) (fun m => ef_rm_cl m x1 i1) ?_
  intro p e s m below meth c T0 hx hby hml hZ hown hnm hret hlk X0 e0
  have N0 := Fr.nil n0
  refine g_iloadN X0 hx hby d4_0 (pc' := 1) rfl rfl ?_
  refine g_aloadN X0 hx hby d4_1 (pc' := 2) rfl rfl rfl ?_
  refine Go.alen X0 hx hZ e0 P0 (z := ((n1 : Nat).toInt32)) rfl (hb hby d4_2) (pc' := 3) rfl ?_
  refine Go.callS X0 hx hZ hown (wi hw 29 rfl) (wi hw 30 rfl) (wi hw 6 rfl) (wi hw 31 rfl) (by decide) e0 (argsL := [(.int i1), (.int ((n1 : Nat).toInt32))]) (rest := []) (W := 0) (rm_ci l Z a0 hw i1 ((n1 : Nat).toInt32) G3 h0 n0 Z0 P1 (by omega) (by have q := len_toInt (n := n1) (by omega); omega) O4 rG3) (hb hby d4_3) (by rw [hml]; rfl) rfl pd2 rfl rfl (by decide) (by decide) (by decide) (by decide) ?_
  intro v1 T1 L1 X1 hQ1
  obtain ⟨rfl, Nq1, hh1⟩ := hQ1
  have N1 := Fr.app N0 Nq1
  refine Go.void (pc' := 6) rfl ?_
  refine g_aloadN X1 hx hby d4_6 (pc' := 7) rfl rfl rfl ?_
  refine g_iloadN X1 hx hby d4_7 (pc' := 8) rfl rfl ?_
  refine Go.baload X1 hx hZ hh1 P0 (k := k1) hk hkn rfl (hb hby d4_8) (pc' := 9) rfl ?_
  refine g_sipush X1 hx hby d4_9 (pc' := 12) rfl (z := (255 : Int32)) rfl ?_
  refine g_iand X1 hx hby d4_12 (pc' := 13) rfl rfl ?_
  refine g_i2c X1 hx hby d4_13 (pc' := 14) rfl rfl ?_
  refine Go.retZ X1 hx hlk hret (by simp) (hb hby d4_14) (by decide) (by decide) ?_
  exact ⟨(by rw [own_chr gc k1 (hgc k1 hkn)]), N1, hh1⟩
theorem d2_0 : decode jdk_42_method_56_code 0 = .ok (.aload_n 0, 1) := by decide +kernel
theorem d2_1 : decode jdk_42_method_56_code 1 = .ok (.invokevirtual 492, 3) := by decide +kernel
theorem pd3 : parseMethodDescriptor "()Z" = some ⟨[], some .boolean⟩ := by decide +kernel
theorem d2_4 : decode jdk_42_method_56_code 4 = .ok (.ifCond .eq 12, 3) := by decide +kernel
theorem d2_7 : decode jdk_42_method_56_code 7 = .ok (.aload_n 0, 1) := by decide +kernel
theorem d2_8 : decode jdk_42_method_56_code 8 = .ok (.getfield 9, 3) := by decide +kernel
theorem d2_11 : decode jdk_42_method_56_code 11 = .ok (.iload_n 1, 1) := by decide +kernel
theorem d2_12 : decode jdk_42_method_56_code 12 = .ok (.invokestatic 495, 3) := by decide +kernel
theorem pd4 : parseMethodDescriptor "([BI)C" = some ⟨[(.array .byte), .int], some .char⟩ := by decide +kernel
theorem d2_15 : decode jdk_42_method_56_code 15 = .ok (.ireturn, 1) := by decide +kernel
theorem ef_rm_ca (m : MethodId) (x0 : Addr) (x1 : Int32) : entryFrame m #[(.ref x0), (.int x1)] 2 = mkF m 0 #[.val (.ref x0), .val (.int x1)] [] := by first | (simp [entryFrame, mkF, argsToLocals, Value.category]; done) | rfl
abbrev Q_rm_ca (Z : State) (a1 : Addr) (i1 : Int32) (x1 : Addr) (n1 : Nat) (gc : Nat → Int32) (k1 : Nat) (G1 : Int32) (G3 : Value) (h0 : Heap) (n0 : Nat) : Option Value → Heap → List Loc → Prop := fun v h L => v = some (.int (gc k1)) ∧ Fr n0 L ∧ h = h0
set_option maxRecDepth 65536 in
set_option maxHeartbeats 40000000 in
theorem rm_ca (l : Launch) (Z : State) (a0 : Array Value) (hw : ∀ d ∈ tables_1, d.before a0 Z = true) (a1 : Addr) (i1 : Int32) (x1 : Addr) (n1 : Nat) (gc : Nat → Int32) (k1 : Nat) (G1 : Int32) (G3 : Value) (h0 : Heap) (n0 : Nat) (Z0 : n0 ≤ h0.size) (P0 : Exa Z h0 a1 kS) (P1 : Fld Z h0 a1 kS "value" "[B" (.ref x1)) (P2 : Fld Z h0 a1 kS "coder" "B" (.int (0 : Int32))) (P3 : ArF Z h0 x1 .byte n1 (fun i => .int ((own_lo gc) i))) (P4 : Old Z n0 h0) (hk : i1.toInt = (k1 : Int)) (hkn : k1 < n1) (hn1 : 1 ≤ n1) (hn3 : n1 ≤ 10) (hgc : ∀ i, i < n1 → 0 ≤ (gc i).toInt ∧ (gc i).toInt ≤ 255) (O2 : Sta Z Z.heap "java/lang/String" "COMPACT_STRINGS" "Z" (.int G1)) (hG1 : ¬ G1.toInt = 0) (O4 : Sta Z Z.heap "jdk/internal/util/Preconditions" "SIOOBE_FORMATTER" "Ljava/util/function/BiFunction;" G3) (rG3 : G3.isRef = true) :
    Con l Z (⟨"java/lang/String", "charAt", "(I)C"⟩ : MethodName) jdk_42_method_56_code 2 (some .char) ({ frames := 3, cells := 0, slots := 0, locals := 40 } : Room) #[(.ref a1), (.int i1)] h0 (Q_rm_ca Z a1 i1 x1 n1 gc k1 G1 G3 h0 n0) := by
  refine meet (y := (⟨"java/lang/String", "charAt", "(I)C"⟩ : MethodName)) (Q := Q_rm_ca Z a1 i1 x1 n1 gc k1 G1 G3 h0 n0) (plainFor_of_name pn_java_lang_String) (fun m => ef_rm_ca m a1 i1) ?_
  intro p e s m below meth c T0 hx hby hml hZ hown hnm hret hlk X0 e0
  have N0 := Fr.nil n0
  refine g_aloadN X0 hx hby d2_0 (pc' := 1) rfl rfl rfl ?_
  refine Go.callV X0 hx hZ hown (wi hw 17 rfl) (wi hw 18 rfl) (notFace_of_selects (args := #[]) (mvT hZ (wi hw 20 rfl))) (wi hw 20 rfl) (wi hw 19 rfl) (wi hw 6 rfl) (wi hw 21 rfl) (by decide) e0 (a := a1) (argsL := []) (rest := []) (W := 0) P0 (rm_lat l Z a0 hw a1 G1 h0 n0 Z0 P2 P4 O2 hG1) (hb hby d2_1) (by rw [hml]; rfl) rfl pd3 rfl rfl (by decide) (by decide) (by decide) (by decide) ?_
  intro v1 T1 L1 X1 hQ1
  obtain ⟨rfl, Nq1, hh1⟩ := hQ1
  have N1 := Fr.app N0 Nq1
  refine Go.push (pc' := 4) rfl ?_
  have hc4 : ¬ ((1 : Int) = (0 : Int)) := by decide
  refine g_ifNo X1 hx hby d2_4 (pc' := 7) (feq (show ¬ ((1 : Int32) = (0 : Int32)) from fun q => hc4 (congrArg Int32.toInt q))).1 rfl ?_
  refine g_aloadN X1 hx hby d2_7 (pc' := 8) rfl rfl rfl ?_
  refine g_getf X1 hx hby hZ hown (host := "") (Or.inl (wi hw 24 rfl)) Via.refl hh1 P1 d2_8 (pc' := 11) rfl ?_
  intro T2 X2 e2
  refine g_iloadN X2 hx hby d2_11 (pc' := 12) rfl rfl ?_
  refine Go.callS X2 hx hZ hown (wi hw 25 rfl) (wi hw 26 rfl) (wi hw 27 rfl) (wi hw 28 rfl) (by decide) e2 (argsL := [(.ref x1), (.int i1)]) (rest := []) (W := 0) (rm_cl l Z a0 hw x1 i1 n1 gc k1 G3 h0 n0 Z0 P3 P4 hk (by omega) (by omega) (by omega) hgc O4 rG3) (hb hby d2_12) (by rw [hml]; rfl) rfl pd4 rfl rfl (by decide) (by decide) (by decide) (by decide) ?_
  intro v3 T3 L3 X3 hQ3
  obtain ⟨rfl, Nq3, hh3⟩ := hQ3
  have N3 := Fr.app N1 Nq3
  refine Go.push (pc' := 15) rfl ?_
  refine Go.retZ X3 hx hlk hret (by simp) (hb hby d2_15) (by decide) (by decide) ?_
  exact ⟨(by rw [own_nc (hgc k1 hkn)]), N3, hh3⟩
theorem d7_0 : decode method_3_code 0 = .ok (.iload_n 2, 1) := by decide +kernel
theorem d7_1 : decode method_3_code 1 = .ok (.aload_n 3, 1) := by decide +kernel
theorem d7_2 : decode method_3_code 2 = .ok (.invokevirtual 15, 3) := by decide +kernel
theorem pd5 : parseMethodDescriptor "()I" = some ⟨[], some .int⟩ := by decide +kernel
theorem d7_5 : decode method_3_code 5 = .ok (.if_icmp .eq 5, 3) := by decide +kernel
theorem d7_10 : decode method_3_code 10 = .ok (.iconst 1, 1) := by decide +kernel
theorem d7_11 : decode method_3_code 11 = .ok (.istore 4, 2) := by decide +kernel
theorem d7_130 : decode method_3_code 130 = .ok (.iload 4, 2) := by decide +kernel
theorem d7_132 : decode method_3_code 132 = .ok (.ireturn, 1) := by decide +kernel
theorem d7_100 : decode method_3_code 100 = .ok (.iload_n 2, 1) := by decide +kernel
theorem d7_101 : decode method_3_code 101 = .ok (.iconst 3, 1) := by decide +kernel
theorem d7_102 : decode method_3_code 102 = .ok (.if_icmp .le 28, 3) := by decide +kernel
theorem d7_105 : decode method_3_code 105 = .ok (.iload 4, 2) := by decide +kernel
theorem d7_107 : decode method_3_code 107 = .ok (.ifCond .eq 20, 3) := by decide +kernel
theorem d7_127 : decode method_3_code 127 = .ok (.iconst 0, 1) := by decide +kernel
theorem d7_128 : decode method_3_code 128 = .ok (.istore 4, 2) := by decide +kernel
theorem d7_110 : decode method_3_code 110 = .ok (.aload_n 0, 1) := by decide +kernel
theorem d7_111 : decode method_3_code 111 = .ok (.iload_n 1, 1) := by decide +kernel
theorem d7_112 : decode method_3_code 112 = .ok (.iconst 3, 1) := by decide +kernel
theorem d7_113 : decode method_3_code 113 = .ok (.iadd, 1) := by decide +kernel
theorem d7_114 : decode method_3_code 114 = .ok (.baload, 1) := by decide +kernel
theorem d7_115 : decode method_3_code 115 = .ok (.aload_n 3, 1) := by decide +kernel
theorem d7_116 : decode method_3_code 116 = .ok (.iconst 3, 1) := by decide +kernel
theorem d7_117 : decode method_3_code 117 = .ok (.invokevirtual 9, 3) := by decide +kernel
theorem pd6 : parseMethodDescriptor "(I)C" = some ⟨[.int], some .char⟩ := by decide +kernel
theorem d7_120 : decode method_3_code 120 = .ok (.if_icmp .ne 7, 3) := by decide +kernel
theorem d7_123 : decode method_3_code 123 = .ok (.iconst 1, 1) := by decide +kernel
theorem d7_124 : decode method_3_code 124 = .ok (.goto 4, 3) := by decide +kernel
theorem d7_70 : decode method_3_code 70 = .ok (.iload_n 2, 1) := by decide +kernel
theorem d7_71 : decode method_3_code 71 = .ok (.iconst 2, 1) := by decide +kernel
theorem d7_72 : decode method_3_code 72 = .ok (.if_icmp .le 28, 3) := by decide +kernel
theorem d7_75 : decode method_3_code 75 = .ok (.iload 4, 2) := by decide +kernel
theorem d7_77 : decode method_3_code 77 = .ok (.ifCond .eq 20, 3) := by decide +kernel
theorem d7_97 : decode method_3_code 97 = .ok (.iconst 0, 1) := by decide +kernel
theorem d7_98 : decode method_3_code 98 = .ok (.istore 4, 2) := by decide +kernel
theorem d7_80 : decode method_3_code 80 = .ok (.aload_n 0, 1) := by decide +kernel
theorem d7_81 : decode method_3_code 81 = .ok (.iload_n 1, 1) := by decide +kernel
theorem d7_82 : decode method_3_code 82 = .ok (.iconst 2, 1) := by decide +kernel
theorem d7_83 : decode method_3_code 83 = .ok (.iadd, 1) := by decide +kernel
theorem d7_84 : decode method_3_code 84 = .ok (.baload, 1) := by decide +kernel
theorem d7_85 : decode method_3_code 85 = .ok (.aload_n 3, 1) := by decide +kernel
theorem d7_86 : decode method_3_code 86 = .ok (.iconst 2, 1) := by decide +kernel
theorem d7_87 : decode method_3_code 87 = .ok (.invokevirtual 9, 3) := by decide +kernel
theorem d7_90 : decode method_3_code 90 = .ok (.if_icmp .ne 7, 3) := by decide +kernel
theorem d7_93 : decode method_3_code 93 = .ok (.iconst 1, 1) := by decide +kernel
theorem d7_94 : decode method_3_code 94 = .ok (.goto 4, 3) := by decide +kernel
theorem d7_40 : decode method_3_code 40 = .ok (.iload_n 2, 1) := by decide +kernel
theorem d7_41 : decode method_3_code 41 = .ok (.iconst 1, 1) := by decide +kernel
theorem d7_42 : decode method_3_code 42 = .ok (.if_icmp .le 28, 3) := by decide +kernel
theorem d7_45 : decode method_3_code 45 = .ok (.iload 4, 2) := by decide +kernel
theorem d7_47 : decode method_3_code 47 = .ok (.ifCond .eq 20, 3) := by decide +kernel
theorem d7_67 : decode method_3_code 67 = .ok (.iconst 0, 1) := by decide +kernel
theorem d7_68 : decode method_3_code 68 = .ok (.istore 4, 2) := by decide +kernel
theorem d7_50 : decode method_3_code 50 = .ok (.aload_n 0, 1) := by decide +kernel
theorem d7_51 : decode method_3_code 51 = .ok (.iload_n 1, 1) := by decide +kernel
theorem d7_52 : decode method_3_code 52 = .ok (.iconst 1, 1) := by decide +kernel
theorem d7_53 : decode method_3_code 53 = .ok (.iadd, 1) := by decide +kernel
theorem d7_54 : decode method_3_code 54 = .ok (.baload, 1) := by decide +kernel
theorem d7_55 : decode method_3_code 55 = .ok (.aload_n 3, 1) := by decide +kernel
theorem d7_56 : decode method_3_code 56 = .ok (.iconst 1, 1) := by decide +kernel
theorem d7_57 : decode method_3_code 57 = .ok (.invokevirtual 9, 3) := by decide +kernel
theorem d7_60 : decode method_3_code 60 = .ok (.if_icmp .ne 7, 3) := by decide +kernel
theorem d7_63 : decode method_3_code 63 = .ok (.iconst 1, 1) := by decide +kernel
theorem d7_64 : decode method_3_code 64 = .ok (.goto 4, 3) := by decide +kernel
theorem d7_13 : decode method_3_code 13 = .ok (.iload_n 2, 1) := by decide +kernel
theorem d7_14 : decode method_3_code 14 = .ok (.ifCond .le 26, 3) := by decide +kernel
theorem d7_17 : decode method_3_code 17 = .ok (.iload 4, 2) := by decide +kernel
theorem d7_19 : decode method_3_code 19 = .ok (.ifCond .eq 18, 3) := by decide +kernel
theorem d7_22 : decode method_3_code 22 = .ok (.aload_n 0, 1) := by decide +kernel
theorem d7_23 : decode method_3_code 23 = .ok (.iload_n 1, 1) := by decide +kernel
theorem d7_24 : decode method_3_code 24 = .ok (.baload, 1) := by decide +kernel
theorem d7_25 : decode method_3_code 25 = .ok (.aload_n 3, 1) := by decide +kernel
theorem d7_26 : decode method_3_code 26 = .ok (.iconst 0, 1) := by decide +kernel
theorem d7_27 : decode method_3_code 27 = .ok (.invokevirtual 9, 3) := by decide +kernel
theorem d7_30 : decode method_3_code 30 = .ok (.if_icmp .ne 7, 3) := by decide +kernel
theorem d7_33 : decode method_3_code 33 = .ok (.iconst 1, 1) := by decide +kernel
theorem d7_34 : decode method_3_code 34 = .ok (.goto 4, 3) := by decide +kernel
theorem d7_38 : decode method_3_code 38 = .ok (.istore 4, 2) := by decide +kernel
theorem d7_37 : decode method_3_code 37 = .ok (.iconst 0, 1) := by decide +kernel
theorem d7_8 : decode method_3_code 8 = .ok (.iconst 0, 1) := by decide +kernel
theorem d7_9 : decode method_3_code 9 = .ok (.ireturn, 1) := by decide +kernel
theorem ef_rm_is (m : MethodId) (x0 : Addr) (x1 : Int32) (x2 : Int32) (x3 : Addr) : entryFrame m #[(.ref x0), (.int x1), (.int x2), (.ref x3)] 5 = mkF m 0 #[.val (.ref x0), .val (.int x1), .val (.int x2), .val (.ref x3), .unset] [] := by first | (simp [entryFrame, mkF, argsToLocals, Value.category]; done) | rfl
theorem pn_com_example_tweak_tags_tweaktags_GeneralEntitiesPredefinedPinLaw : plainName "com/example/tweak_tags/tweaktags/GeneralEntitiesPredefinedPinLaw" = true := by first | (simp [plainName, overriddenIn]; done) | decide +kernel
abbrev Q_rm_is (Z : State) (y1 : Addr) (i1 : Int32) (i2 : Int32) (a1 : Addr) (g : Nat → Int32) (s0 : Nat) (l0 : Nat) (x1 : Addr) (n1 : Nat) (gc : Nat → Int32) (G1 : Int32) (G3 : Value) (h0 : Heap) (n0 : Nat) : Option Value → Heap → List Loc → Prop := fun v h L => v = some (.int (own_is g s0 l0 n1 gc)) ∧ Fr n0 L ∧ h = h0
set_option maxRecDepth 65536 in
set_option maxHeartbeats 40000000 in
theorem rm_is (l : Launch) (Z : State) (a0 : Array Value) (hw : ∀ d ∈ tables_1, d.before a0 Z = true) (y1 : Addr) (i1 : Int32) (i2 : Int32) (a1 : Addr) (g : Nat → Int32) (s0 : Nat) (l0 : Nat) (x1 : Addr) (n1 : Nat) (gc : Nat → Int32) (G1 : Int32) (G3 : Value) (h0 : Heap) (n0 : Nat) (Z0 : n0 ≤ h0.size) (P0 : ArF Z h0 y1 .byte 6 (fun i => .int (g i))) (P1 : Exa Z h0 a1 kS) (P2 : Fld Z h0 a1 kS "value" "[B" (.ref x1)) (P3 : Fld Z h0 a1 kS "coder" "B" (.int (0 : Int32))) (P4 : ArF Z h0 x1 .byte n1 (fun i => .int ((own_lo gc) i))) (P5 : Old Z n0 h0) (hi1 : i1.toInt = (s0 : Int)) (hi2 : i2.toInt = (l0 : Int)) (hs1 : s0 ≤ 1) (hl5 : l0 ≤ 5) (hn4 : n1 ≤ 4) (hn1 : 1 ≤ n1) (hn3 : n1 ≤ 10) (hgc : ∀ i, i < n1 → 0 ≤ (gc i).toInt ∧ (gc i).toInt ≤ 255) (O2 : Sta Z Z.heap "java/lang/String" "COMPACT_STRINGS" "Z" (.int G1)) (hG1 : ¬ G1.toInt = 0) (O4 : Sta Z Z.heap "jdk/internal/util/Preconditions" "SIOOBE_FORMATTER" "Ljava/util/function/BiFunction;" G3) (rG3 : G3.isRef = true) :
    Con l Z (⟨"com/example/tweak_tags/tweaktags/GeneralEntitiesPredefinedPinLaw", "is", "([BIILjava/lang/String;)Z"⟩ : MethodName) method_3_code 5 (some .boolean) ({ frames := 4, cells := 0, slots := 0, locals := 54 } : Room) #[(.ref y1), (.int i1), (.int i2), (.ref a1)] h0 (Q_rm_is Z y1 i1 i2 a1 g s0 l0 x1 n1 gc G1 G3 h0 n0) := by
  refine meet (y := (⟨"com/example/tweak_tags/tweaktags/GeneralEntitiesPredefinedPinLaw", "is", "([BIILjava/lang/String;)Z"⟩ : MethodName)) (Q := Q_rm_is Z y1 i1 i2 a1 g s0 l0 x1 n1 gc G1 G3 h0 n0) (plainFor_of_name pn_com_example_tweak_tags_tweaktags_GeneralEntitiesPredefinedPinLaw) (fun m => ef_rm_is m y1 i1 i2 a1) ?_
  intro p e s m below meth c T0 hx hby hml hZ hown hnm hret hlk X0 e0
  have N0 := Fr.nil n0
  refine g_iloadN X0 hx hby d7_0 (pc' := 1) rfl rfl ?_
  refine g_aloadN X0 hx hby d7_1 (pc' := 2) rfl rfl rfl ?_
  refine Go.callV X0 hx hZ hown (wi hw 41 rfl) (wi hw 42 rfl) (notFace_of_selects (args := #[]) (mvT hZ (wi hw 44 rfl))) (wi hw 44 rfl) (wi hw 43 rfl) (wi hw 6 rfl) (wi hw 45 rfl) (by decide) e0 (a := a1) (argsL := []) (rest := [(.int i2)]) (W := 1) P1 (rm_len l Z a0 hw a1 x1 n1 gc G1 h0 n0 Z0 P1 P2 P3 P4 P5 O2 hG1) (hb hby d7_2) (by rw [hml]; rfl) rfl pd5 rfl rfl (by decide) (by decide) (by decide) (by decide) ?_
  intro v1 T1 L1 X1 hQ1
  obtain ⟨rfl, Nq1, hh1⟩ := hQ1
  have N1 := Fr.app N0 Nq1
  refine Go.push (pc' := 5) rfl ?_
  by_cases hc5 : i2.toInt = ((n1 : Nat).toInt32).toInt
  · refine g_icmpYes X1 hx hby d7_5 (pc' := 10) (teq (show i2 = ((n1 : Nat).toInt32) from Int32.toInt_inj.mp hc5)).1 (by decide) (by decide) ?_
    have hln : l0 = n1 := by have q := len_toInt (n := n1) (by omega); omega
    refine g_iconst X1 hx hby d7_10 (pc' := 11) rfl (z := (1 : Int32)) rfl ?_
    refine g_istore X1 hx hby d7_11 (pc' := 13) rfl (L' := #[.val (.ref y1), .val (.int i1), .val (.int i2), .val (.ref a1), .val (.int (1 : Int32))]) rfl ?_
    refine Go.join (α := State × (List Loc) × Int32) (P := fun x => (fun (Tj40 : State) (Lj40 : List Loc) (f1 : Int32) => Stand p l e ({ frames := 4, cells := 0, slots := 0, locals := 54 } : Room) s m #[(.ref y1), (.int i1), (.int i2), (.ref a1)] below meth c Tj40 Lj40 0 0 ∧ Tj40.heap = h0 ∧ Fr n0 Lj40 ∧ (f1 = own_f g s0 l0 gc 1)) x.1 x.2.1 x.2.2) (F := fun x => (fun (Tj40 : State) (Lj40 : List Loc) (f1 : Int32) => Tj40.setTop (mkF m 40 #[.val (.ref y1), .val (.int i1), .val (.int i2), .val (.ref a1), .val (.int f1)] [])) x.1 x.2.1 x.2.2) ?_ ?_
    · rintro ⟨Tj40, Lj40, f1⟩ hP40
      obtain ⟨Xj40, ej40, Nj40, hJ40⟩ : Stand p l e ({ frames := 4, cells := 0, slots := 0, locals := 54 } : Room) s m #[(.ref y1), (.int i1), (.int i2), (.ref a1)] below meth c Tj40 Lj40 0 0 ∧ Tj40.heap = h0 ∧ Fr n0 Lj40 ∧ (f1 = own_f g s0 l0 gc 1) := hP40
      show Go p.tables e below s _ _ _ (Tj40.setTop (mkF m 40 #[.val (.ref y1), .val (.int i1), .val (.int i2), .val (.ref a1), .val (.int f1)] []))
      refine Go.join (α := State × (List Loc) × Int32) (P := fun x => (fun (Tj70 : State) (Lj70 : List Loc) (f2 : Int32) => Stand p l e ({ frames := 4, cells := 0, slots := 0, locals := 54 } : Room) s m #[(.ref y1), (.int i1), (.int i2), (.ref a1)] below meth c Tj70 Lj70 0 0 ∧ Tj70.heap = h0 ∧ Fr n0 Lj70 ∧ (f2 = own_f g s0 l0 gc 2)) x.1 x.2.1 x.2.2) (F := fun x => (fun (Tj70 : State) (Lj70 : List Loc) (f2 : Int32) => Tj70.setTop (mkF m 70 #[.val (.ref y1), .val (.int i1), .val (.int i2), .val (.ref a1), .val (.int f2)] [])) x.1 x.2.1 x.2.2) ?_ ?_
      · rintro ⟨Tj70, Lj70, f2⟩ hP70
        obtain ⟨Xj70, ej70, Nj70, hJ70⟩ : Stand p l e ({ frames := 4, cells := 0, slots := 0, locals := 54 } : Room) s m #[(.ref y1), (.int i1), (.int i2), (.ref a1)] below meth c Tj70 Lj70 0 0 ∧ Tj70.heap = h0 ∧ Fr n0 Lj70 ∧ (f2 = own_f g s0 l0 gc 2) := hP70
        show Go p.tables e below s _ _ _ (Tj70.setTop (mkF m 70 #[.val (.ref y1), .val (.int i1), .val (.int i2), .val (.ref a1), .val (.int f2)] []))
        refine Go.join (α := State × (List Loc) × Int32) (P := fun x => (fun (Tj100 : State) (Lj100 : List Loc) (f3 : Int32) => Stand p l e ({ frames := 4, cells := 0, slots := 0, locals := 54 } : Room) s m #[(.ref y1), (.int i1), (.int i2), (.ref a1)] below meth c Tj100 Lj100 0 0 ∧ Tj100.heap = h0 ∧ Fr n0 Lj100 ∧ (f3 = own_f g s0 l0 gc 3)) x.1 x.2.1 x.2.2) (F := fun x => (fun (Tj100 : State) (Lj100 : List Loc) (f3 : Int32) => Tj100.setTop (mkF m 100 #[.val (.ref y1), .val (.int i1), .val (.int i2), .val (.ref a1), .val (.int f3)] [])) x.1 x.2.1 x.2.2) ?_ ?_
        · rintro ⟨Tj100, Lj100, f3⟩ hP100
          obtain ⟨Xj100, ej100, Nj100, hJ100⟩ : Stand p l e ({ frames := 4, cells := 0, slots := 0, locals := 54 } : Room) s m #[(.ref y1), (.int i1), (.int i2), (.ref a1)] below meth c Tj100 Lj100 0 0 ∧ Tj100.heap = h0 ∧ Fr n0 Lj100 ∧ (f3 = own_f g s0 l0 gc 3) := hP100
          show Go p.tables e below s _ _ _ (Tj100.setTop (mkF m 100 #[.val (.ref y1), .val (.int i1), .val (.int i2), .val (.ref a1), .val (.int f3)] []))
          refine Go.join (α := State × (List Loc) × Int32) (P := fun x => (fun (Tj130 : State) (Lj130 : List Loc) (f4 : Int32) => Stand p l e ({ frames := 4, cells := 0, slots := 0, locals := 54 } : Room) s m #[(.ref y1), (.int i1), (.int i2), (.ref a1)] below meth c Tj130 Lj130 0 0 ∧ Tj130.heap = h0 ∧ Fr n0 Lj130 ∧ (f4 = own_f g s0 l0 gc 4)) x.1 x.2.1 x.2.2) (F := fun x => (fun (Tj130 : State) (Lj130 : List Loc) (f4 : Int32) => Tj130.setTop (mkF m 130 #[.val (.ref y1), .val (.int i1), .val (.int i2), .val (.ref a1), .val (.int f4)] [])) x.1 x.2.1 x.2.2) ?_ ?_
          · rintro ⟨Tj130, Lj130, f4⟩ hP130
            obtain ⟨Xj130, ej130, Nj130, hJ130⟩ : Stand p l e ({ frames := 4, cells := 0, slots := 0, locals := 54 } : Room) s m #[(.ref y1), (.int i1), (.int i2), (.ref a1)] below meth c Tj130 Lj130 0 0 ∧ Tj130.heap = h0 ∧ Fr n0 Lj130 ∧ (f4 = own_f g s0 l0 gc 4) := hP130
            show Go p.tables e below s _ _ _ (Tj130.setTop (mkF m 130 #[.val (.ref y1), .val (.int i1), .val (.int i2), .val (.ref a1), .val (.int f4)] []))
            refine g_iload Xj130 hx hby d7_130 (pc' := 132) rfl rfl ?_
            refine Go.retZ Xj130 hx hlk hret (by simp) (hb hby d7_132) (by decide) (by decide) ?_
            exact ⟨(by rw [hJ130, own_f_is g s0 l0 n1 gc hln (by omega)]; rw [own_is_nar]), Nj130, ej130⟩
          intro J130
          refine g_iloadN Xj100 hx hby d7_100 (pc' := 101) rfl rfl ?_
          refine g_iconst Xj100 hx hby d7_101 (pc' := 102) rfl (z := (3 : Int32)) rfl ?_
          by_cases hc102 : (3 : Int) < i2.toInt
          · refine g_icmpNo Xj100 hx hby d7_102 (pc' := 105) (tlt (show (3 : Int32) < i2 from Int32.lt_iff_toInt_lt.mpr hc102)).2.2.2 rfl ?_
            refine g_iload Xj100 hx hby d7_105 (pc' := 107) rfl rfl ?_
            by_cases hc107 : f3.toInt = (0 : Int)
            · refine g_ifYes Xj100 hx hby d7_107 (pc' := 127) (teq (show f3 = (0 : Int32) from Int32.toInt_inj.mp hc107)).1 (by decide) (by decide) ?_
              refine g_iconst Xj100 hx hby d7_127 (pc' := 128) rfl (z := (0 : Int32)) rfl ?_
              refine g_istore Xj100 hx hby d7_128 (pc' := 130) rfl (L' := #[.val (.ref y1), .val (.int i1), .val (.int i2), .val (.ref a1), .val (.int (0 : Int32))]) rfl ?_
              exact J130 (Tj100, _, (0 : Int32)) ⟨Xj100.more (by decide) (by decide), ej100, Nj100, (show (0 : Int32) = own_f g s0 l0 gc 4 from (own_f_z1 g s0 l0 gc 3 (by rw [← hJ100]; exact hc107)).symm)⟩
            · refine g_ifNo Xj100 hx hby d7_107 (pc' := 110) (feq (show ¬ (f3 = (0 : Int32)) from fun q => hc107 (congrArg Int32.toInt q))).1 rfl ?_
              refine g_aloadN Xj100 hx hby d7_110 (pc' := 111) rfl rfl rfl ?_
              refine g_iloadN Xj100 hx hby d7_111 (pc' := 112) rfl rfl ?_
              refine g_iconst Xj100 hx hby d7_112 (pc' := 113) rfl (z := (3 : Int32)) rfl ?_
              refine g_iadd Xj100 hx hby d7_113 (pc' := 114) rfl rfl ?_
              refine Go.baload Xj100 hx hZ ej100 P0 (k := (s0 + 3)) (by have : ((i1 + (3 : Int32)).toInt - (i1.toInt + (3))) % 4294967296 = 0 := c_iadd _ _; have : -2147483648 ≤ (i1 + (3 : Int32)).toInt ∧ (i1 + (3 : Int32)).toInt < 2147483648 := rng32 _; have : -2147483648 ≤ i1.toInt ∧ i1.toInt < 2147483648 := rng32 _; omega) (by omega) rfl (hb hby d7_114) (pc' := 115) rfl ?_
              refine g_aloadN Xj100 hx hby d7_115 (pc' := 116) rfl rfl rfl ?_
              refine g_iconst Xj100 hx hby d7_116 (pc' := 117) rfl (z := (3 : Int32)) rfl ?_
              refine Go.callV Xj100 hx hZ hown (wi hw 12 rfl) (wi hw 13 rfl) (notFace_of_selects (args := #[]) (mvT hZ (wi hw 15 rfl))) (wi hw 15 rfl) (wi hw 14 rfl) (wi hw 6 rfl) (wi hw 16 rfl) (by decide) ej100 (a := a1) (argsL := [(.int (3 : Int32))]) (rest := [(.int (g (s0 + 3)))]) (W := 1) P1 (rm_ca l Z a0 hw a1 (3 : Int32) x1 n1 gc 3 G1 G3 h0 n0 Z0 P1 P2 P3 P4 P5 rfl (by omega) (by omega) (by omega) hgc O2 hG1 O4 rG3) (hb hby d7_117) (by rw [hml]; rfl) rfl pd6 rfl rfl (by decide) (by decide) (by decide) (by decide) ?_
              intro v2 T2 L2 X2 hQ2
              obtain ⟨rfl, Nq2, hh2⟩ := hQ2
              have N2 := Fr.app Nj100 Nq2
              refine Go.push (pc' := 120) rfl ?_
              by_cases hc120 : (g (s0 + 3)).toInt = (gc 3).toInt
              · refine g_icmpNo X2 hx hby d7_120 (pc' := 123) (teq (show (g (s0 + 3)) = (gc 3) from Int32.toInt_inj.mp hc120)).2 rfl ?_
                refine g_iconst X2 hx hby d7_123 (pc' := 124) rfl (z := (1 : Int32)) rfl ?_
                refine g_goto X2 hx hby d7_124 (pc' := 128) (by decide) (by decide) ?_
                refine g_istore X2 hx hby d7_128 (pc' := 130) rfl (L' := #[.val (.ref y1), .val (.int i1), .val (.int i2), .val (.ref a1), .val (.int (1 : Int32))]) rfl ?_
                exact J130 (T2, _, (1 : Int32)) ⟨X2.more (by decide) (by decide), hh2, N2, (show (1 : Int32) = own_f g s0 l0 gc 4 from (own_f_one g s0 l0 gc 3 (by rw [← hJ100]; exact hc107) hc120).symm)⟩
              · refine g_icmpYes X2 hx hby d7_120 (pc' := 127) (feq (show ¬ ((g (s0 + 3)) = (gc 3)) from fun q => hc120 (congrArg Int32.toInt q))).2 (by decide) (by decide) ?_
                refine g_iconst X2 hx hby d7_127 (pc' := 128) rfl (z := (0 : Int32)) rfl ?_
                refine g_istore X2 hx hby d7_128 (pc' := 130) rfl (L' := #[.val (.ref y1), .val (.int i1), .val (.int i2), .val (.ref a1), .val (.int (0 : Int32))]) rfl ?_
                exact J130 (T2, _, (0 : Int32)) ⟨X2.more (by decide) (by decide), hh2, N2, (show (0 : Int32) = own_f g s0 l0 gc 4 from (own_f_z2 g s0 l0 gc 3 (by omega) hc120).symm)⟩
          · refine g_icmpYes Xj100 hx hby d7_102 (pc' := 130) (flt (show ¬ ((3 : Int32) < i2) from fun q => hc102 (Int32.lt_iff_toInt_lt.mp q))).2.2.2 (by decide) (by decide) ?_
            exact J130 (Tj100, _, f3) ⟨Xj100.more (by decide) (by decide), ej100, Nj100, (show f3 = own_f g s0 l0 gc 4 from (by rw [own_f_skip g s0 l0 gc 3 (by omega)]; exact hJ100))⟩
        intro J100
        refine g_iloadN Xj70 hx hby d7_70 (pc' := 71) rfl rfl ?_
        refine g_iconst Xj70 hx hby d7_71 (pc' := 72) rfl (z := (2 : Int32)) rfl ?_
        by_cases hc72 : (2 : Int) < i2.toInt
        · refine g_icmpNo Xj70 hx hby d7_72 (pc' := 75) (tlt (show (2 : Int32) < i2 from Int32.lt_iff_toInt_lt.mpr hc72)).2.2.2 rfl ?_
          refine g_iload Xj70 hx hby d7_75 (pc' := 77) rfl rfl ?_
          by_cases hc77 : f2.toInt = (0 : Int)
          · refine g_ifYes Xj70 hx hby d7_77 (pc' := 97) (teq (show f2 = (0 : Int32) from Int32.toInt_inj.mp hc77)).1 (by decide) (by decide) ?_
            refine g_iconst Xj70 hx hby d7_97 (pc' := 98) rfl (z := (0 : Int32)) rfl ?_
            refine g_istore Xj70 hx hby d7_98 (pc' := 100) rfl (L' := #[.val (.ref y1), .val (.int i1), .val (.int i2), .val (.ref a1), .val (.int (0 : Int32))]) rfl ?_
            exact J100 (Tj70, _, (0 : Int32)) ⟨Xj70.more (by decide) (by decide), ej70, Nj70, (show (0 : Int32) = own_f g s0 l0 gc 3 from (own_f_z1 g s0 l0 gc 2 (by rw [← hJ70]; exact hc77)).symm)⟩
          · refine g_ifNo Xj70 hx hby d7_77 (pc' := 80) (feq (show ¬ (f2 = (0 : Int32)) from fun q => hc77 (congrArg Int32.toInt q))).1 rfl ?_
            refine g_aloadN Xj70 hx hby d7_80 (pc' := 81) rfl rfl rfl ?_
            refine g_iloadN Xj70 hx hby d7_81 (pc' := 82) rfl rfl ?_
            refine g_iconst Xj70 hx hby d7_82 (pc' := 83) rfl (z := (2 : Int32)) rfl ?_
            refine g_iadd Xj70 hx hby d7_83 (pc' := 84) rfl rfl ?_
            refine Go.baload Xj70 hx hZ ej70 P0 (k := (s0 + 2)) (by have : ((i1 + (2 : Int32)).toInt - (i1.toInt + (2))) % 4294967296 = 0 := c_iadd _ _; have : -2147483648 ≤ (i1 + (2 : Int32)).toInt ∧ (i1 + (2 : Int32)).toInt < 2147483648 := rng32 _; have : -2147483648 ≤ i1.toInt ∧ i1.toInt < 2147483648 := rng32 _; omega) (by omega) rfl (hb hby d7_84) (pc' := 85) rfl ?_
            refine g_aloadN Xj70 hx hby d7_85 (pc' := 86) rfl rfl rfl ?_
            refine g_iconst Xj70 hx hby d7_86 (pc' := 87) rfl (z := (2 : Int32)) rfl ?_
            refine Go.callV Xj70 hx hZ hown (wi hw 12 rfl) (wi hw 13 rfl) (notFace_of_selects (args := #[]) (mvT hZ (wi hw 15 rfl))) (wi hw 15 rfl) (wi hw 14 rfl) (wi hw 6 rfl) (wi hw 16 rfl) (by decide) ej70 (a := a1) (argsL := [(.int (2 : Int32))]) (rest := [(.int (g (s0 + 2)))]) (W := 1) P1 (rm_ca l Z a0 hw a1 (2 : Int32) x1 n1 gc 2 G1 G3 h0 n0 Z0 P1 P2 P3 P4 P5 rfl (by omega) (by omega) (by omega) hgc O2 hG1 O4 rG3) (hb hby d7_87) (by rw [hml]; rfl) rfl pd6 rfl rfl (by decide) (by decide) (by decide) (by decide) ?_
            intro v3 T3 L3 X3 hQ3
            obtain ⟨rfl, Nq3, hh3⟩ := hQ3
            have N3 := Fr.app Nj70 Nq3
            refine Go.push (pc' := 90) rfl ?_
            by_cases hc90 : (g (s0 + 2)).toInt = (gc 2).toInt
            · refine g_icmpNo X3 hx hby d7_90 (pc' := 93) (teq (show (g (s0 + 2)) = (gc 2) from Int32.toInt_inj.mp hc90)).2 rfl ?_
              refine g_iconst X3 hx hby d7_93 (pc' := 94) rfl (z := (1 : Int32)) rfl ?_
              refine g_goto X3 hx hby d7_94 (pc' := 98) (by decide) (by decide) ?_
              refine g_istore X3 hx hby d7_98 (pc' := 100) rfl (L' := #[.val (.ref y1), .val (.int i1), .val (.int i2), .val (.ref a1), .val (.int (1 : Int32))]) rfl ?_
              exact J100 (T3, _, (1 : Int32)) ⟨X3.more (by decide) (by decide), hh3, N3, (show (1 : Int32) = own_f g s0 l0 gc 3 from (own_f_one g s0 l0 gc 2 (by rw [← hJ70]; exact hc77) hc90).symm)⟩
            · refine g_icmpYes X3 hx hby d7_90 (pc' := 97) (feq (show ¬ ((g (s0 + 2)) = (gc 2)) from fun q => hc90 (congrArg Int32.toInt q))).2 (by decide) (by decide) ?_
              refine g_iconst X3 hx hby d7_97 (pc' := 98) rfl (z := (0 : Int32)) rfl ?_
              refine g_istore X3 hx hby d7_98 (pc' := 100) rfl (L' := #[.val (.ref y1), .val (.int i1), .val (.int i2), .val (.ref a1), .val (.int (0 : Int32))]) rfl ?_
              exact J100 (T3, _, (0 : Int32)) ⟨X3.more (by decide) (by decide), hh3, N3, (show (0 : Int32) = own_f g s0 l0 gc 3 from (own_f_z2 g s0 l0 gc 2 (by omega) hc90).symm)⟩
        · refine g_icmpYes Xj70 hx hby d7_72 (pc' := 100) (flt (show ¬ ((2 : Int32) < i2) from fun q => hc72 (Int32.lt_iff_toInt_lt.mp q))).2.2.2 (by decide) (by decide) ?_
          exact J100 (Tj70, _, f2) ⟨Xj70.more (by decide) (by decide), ej70, Nj70, (show f2 = own_f g s0 l0 gc 3 from (by rw [own_f_skip g s0 l0 gc 2 (by omega)]; exact hJ70))⟩
      intro J70
      refine g_iloadN Xj40 hx hby d7_40 (pc' := 41) rfl rfl ?_
      refine g_iconst Xj40 hx hby d7_41 (pc' := 42) rfl (z := (1 : Int32)) rfl ?_
      by_cases hc42 : (1 : Int) < i2.toInt
      · refine g_icmpNo Xj40 hx hby d7_42 (pc' := 45) (tlt (show (1 : Int32) < i2 from Int32.lt_iff_toInt_lt.mpr hc42)).2.2.2 rfl ?_
        refine g_iload Xj40 hx hby d7_45 (pc' := 47) rfl rfl ?_
        by_cases hc47 : f1.toInt = (0 : Int)
        · refine g_ifYes Xj40 hx hby d7_47 (pc' := 67) (teq (show f1 = (0 : Int32) from Int32.toInt_inj.mp hc47)).1 (by decide) (by decide) ?_
          refine g_iconst Xj40 hx hby d7_67 (pc' := 68) rfl (z := (0 : Int32)) rfl ?_
          refine g_istore Xj40 hx hby d7_68 (pc' := 70) rfl (L' := #[.val (.ref y1), .val (.int i1), .val (.int i2), .val (.ref a1), .val (.int (0 : Int32))]) rfl ?_
          exact J70 (Tj40, _, (0 : Int32)) ⟨Xj40.more (by decide) (by decide), ej40, Nj40, (show (0 : Int32) = own_f g s0 l0 gc 2 from (own_f_z1 g s0 l0 gc 1 (by rw [← hJ40]; exact hc47)).symm)⟩
        · refine g_ifNo Xj40 hx hby d7_47 (pc' := 50) (feq (show ¬ (f1 = (0 : Int32)) from fun q => hc47 (congrArg Int32.toInt q))).1 rfl ?_
          refine g_aloadN Xj40 hx hby d7_50 (pc' := 51) rfl rfl rfl ?_
          refine g_iloadN Xj40 hx hby d7_51 (pc' := 52) rfl rfl ?_
          refine g_iconst Xj40 hx hby d7_52 (pc' := 53) rfl (z := (1 : Int32)) rfl ?_
          refine g_iadd Xj40 hx hby d7_53 (pc' := 54) rfl rfl ?_
          refine Go.baload Xj40 hx hZ ej40 P0 (k := (s0 + 1)) (by have : ((i1 + (1 : Int32)).toInt - (i1.toInt + (1))) % 4294967296 = 0 := c_iadd _ _; have : -2147483648 ≤ (i1 + (1 : Int32)).toInt ∧ (i1 + (1 : Int32)).toInt < 2147483648 := rng32 _; have : -2147483648 ≤ i1.toInt ∧ i1.toInt < 2147483648 := rng32 _; omega) (by omega) rfl (hb hby d7_54) (pc' := 55) rfl ?_
          refine g_aloadN Xj40 hx hby d7_55 (pc' := 56) rfl rfl rfl ?_
          refine g_iconst Xj40 hx hby d7_56 (pc' := 57) rfl (z := (1 : Int32)) rfl ?_
          refine Go.callV Xj40 hx hZ hown (wi hw 12 rfl) (wi hw 13 rfl) (notFace_of_selects (args := #[]) (mvT hZ (wi hw 15 rfl))) (wi hw 15 rfl) (wi hw 14 rfl) (wi hw 6 rfl) (wi hw 16 rfl) (by decide) ej40 (a := a1) (argsL := [(.int (1 : Int32))]) (rest := [(.int (g (s0 + 1)))]) (W := 1) P1 (rm_ca l Z a0 hw a1 (1 : Int32) x1 n1 gc 1 G1 G3 h0 n0 Z0 P1 P2 P3 P4 P5 rfl (by omega) (by omega) (by omega) hgc O2 hG1 O4 rG3) (hb hby d7_57) (by rw [hml]; rfl) rfl pd6 rfl rfl (by decide) (by decide) (by decide) (by decide) ?_
          intro v4 T4 L4 X4 hQ4
          obtain ⟨rfl, Nq4, hh4⟩ := hQ4
          have N4 := Fr.app Nj40 Nq4
          refine Go.push (pc' := 60) rfl ?_
          by_cases hc60 : (g (s0 + 1)).toInt = (gc 1).toInt
          · refine g_icmpNo X4 hx hby d7_60 (pc' := 63) (teq (show (g (s0 + 1)) = (gc 1) from Int32.toInt_inj.mp hc60)).2 rfl ?_
            refine g_iconst X4 hx hby d7_63 (pc' := 64) rfl (z := (1 : Int32)) rfl ?_
            refine g_goto X4 hx hby d7_64 (pc' := 68) (by decide) (by decide) ?_
            refine g_istore X4 hx hby d7_68 (pc' := 70) rfl (L' := #[.val (.ref y1), .val (.int i1), .val (.int i2), .val (.ref a1), .val (.int (1 : Int32))]) rfl ?_
            exact J70 (T4, _, (1 : Int32)) ⟨X4.more (by decide) (by decide), hh4, N4, (show (1 : Int32) = own_f g s0 l0 gc 2 from (own_f_one g s0 l0 gc 1 (by rw [← hJ40]; exact hc47) hc60).symm)⟩
          · refine g_icmpYes X4 hx hby d7_60 (pc' := 67) (feq (show ¬ ((g (s0 + 1)) = (gc 1)) from fun q => hc60 (congrArg Int32.toInt q))).2 (by decide) (by decide) ?_
            refine g_iconst X4 hx hby d7_67 (pc' := 68) rfl (z := (0 : Int32)) rfl ?_
            refine g_istore X4 hx hby d7_68 (pc' := 70) rfl (L' := #[.val (.ref y1), .val (.int i1), .val (.int i2), .val (.ref a1), .val (.int (0 : Int32))]) rfl ?_
            exact J70 (T4, _, (0 : Int32)) ⟨X4.more (by decide) (by decide), hh4, N4, (show (0 : Int32) = own_f g s0 l0 gc 2 from (own_f_z2 g s0 l0 gc 1 (by omega) hc60).symm)⟩
      · refine g_icmpYes Xj40 hx hby d7_42 (pc' := 70) (flt (show ¬ ((1 : Int32) < i2) from fun q => hc42 (Int32.lt_iff_toInt_lt.mp q))).2.2.2 (by decide) (by decide) ?_
        exact J70 (Tj40, _, f1) ⟨Xj40.more (by decide) (by decide), ej40, Nj40, (show f1 = own_f g s0 l0 gc 2 from (by rw [own_f_skip g s0 l0 gc 1 (by omega)]; exact hJ40))⟩
    intro J40
    refine g_iloadN X1 hx hby d7_13 (pc' := 14) rfl rfl ?_
    by_cases hc14 : (0 : Int) < i2.toInt
    · refine g_ifNo X1 hx hby d7_14 (pc' := 17) (tlt (show (0 : Int32) < i2 from Int32.lt_iff_toInt_lt.mpr hc14)).2.2.2 rfl ?_
      refine g_iload X1 hx hby d7_17 (pc' := 19) rfl rfl ?_
      have hc19 : ¬ ((1 : Int) = (0 : Int)) := by decide
      refine g_ifNo X1 hx hby d7_19 (pc' := 22) (feq (show ¬ ((1 : Int32) = (0 : Int32)) from fun q => hc19 (congrArg Int32.toInt q))).1 rfl ?_
      refine g_aloadN X1 hx hby d7_22 (pc' := 23) rfl rfl rfl ?_
      refine g_iloadN X1 hx hby d7_23 (pc' := 24) rfl rfl ?_
      refine Go.baload X1 hx hZ hh1 P0 (k := (s0 + 0)) (by omega) (by omega) rfl (hb hby d7_24) (pc' := 25) rfl ?_
      refine g_aloadN X1 hx hby d7_25 (pc' := 26) rfl rfl rfl ?_
      refine g_iconst X1 hx hby d7_26 (pc' := 27) rfl (z := (0 : Int32)) rfl ?_
      refine Go.callV X1 hx hZ hown (wi hw 12 rfl) (wi hw 13 rfl) (notFace_of_selects (args := #[]) (mvT hZ (wi hw 15 rfl))) (wi hw 15 rfl) (wi hw 14 rfl) (wi hw 6 rfl) (wi hw 16 rfl) (by decide) hh1 (a := a1) (argsL := [(.int (0 : Int32))]) (rest := [(.int (g (s0 + 0)))]) (W := 1) P1 (rm_ca l Z a0 hw a1 (0 : Int32) x1 n1 gc 0 G1 G3 h0 n0 Z0 P1 P2 P3 P4 P5 rfl (by omega) (by omega) (by omega) hgc O2 hG1 O4 rG3) (hb hby d7_27) (by rw [hml]; rfl) rfl pd6 rfl rfl (by decide) (by decide) (by decide) (by decide) ?_
      intro v5 T5 L5 X5 hQ5
      obtain ⟨rfl, Nq5, hh5⟩ := hQ5
      have N5 := Fr.app N1 Nq5
      refine Go.push (pc' := 30) rfl ?_
      by_cases hc30 : (g (s0 + 0)).toInt = (gc 0).toInt
      · refine g_icmpNo X5 hx hby d7_30 (pc' := 33) (teq (show (g (s0 + 0)) = (gc 0) from Int32.toInt_inj.mp hc30)).2 rfl ?_
        refine g_iconst X5 hx hby d7_33 (pc' := 34) rfl (z := (1 : Int32)) rfl ?_
        refine g_goto X5 hx hby d7_34 (pc' := 38) (by decide) (by decide) ?_
        refine g_istore X5 hx hby d7_38 (pc' := 40) rfl (L' := #[.val (.ref y1), .val (.int i1), .val (.int i2), .val (.ref a1), .val (.int (1 : Int32))]) rfl ?_
        exact J40 (T5, _, (1 : Int32)) ⟨X5.more (by decide) (by decide), hh5, N5, (show (1 : Int32) = own_f g s0 l0 gc 1 from (own_f_one g s0 l0 gc 0 (by rw [own_f0]; decide) hc30).symm)⟩
      · refine g_icmpYes X5 hx hby d7_30 (pc' := 37) (feq (show ¬ ((g (s0 + 0)) = (gc 0)) from fun q => hc30 (congrArg Int32.toInt q))).2 (by decide) (by decide) ?_
        refine g_iconst X5 hx hby d7_37 (pc' := 38) rfl (z := (0 : Int32)) rfl ?_
        refine g_istore X5 hx hby d7_38 (pc' := 40) rfl (L' := #[.val (.ref y1), .val (.int i1), .val (.int i2), .val (.ref a1), .val (.int (0 : Int32))]) rfl ?_
        exact J40 (T5, _, (0 : Int32)) ⟨X5.more (by decide) (by decide), hh5, N5, (show (0 : Int32) = own_f g s0 l0 gc 1 from (own_f_z2 g s0 l0 gc 0 (by omega) hc30).symm)⟩
    · refine g_ifYes X1 hx hby d7_14 (pc' := 40) (flt (show ¬ ((0 : Int32) < i2) from fun q => hc14 (Int32.lt_iff_toInt_lt.mp q))).2.2.2 (by decide) (by decide) ?_
      exact J40 (T1, _, (1 : Int32)) ⟨X1.more (by decide) (by decide), hh1, N1, (show (1 : Int32) = own_f g s0 l0 gc 1 from (by rw [own_f_skip g s0 l0 gc 0 (by omega)]; exact (own_f0 g s0 l0 gc).symm))⟩
  · refine g_icmpNo X1 hx hby d7_5 (pc' := 8) (feq (show ¬ (i2 = ((n1 : Nat).toInt32)) from fun q => hc5 (congrArg Int32.toInt q))).1 rfl ?_
    refine g_iconst X1 hx hby d7_8 (pc' := 9) rfl (z := (0 : Int32)) rfl ?_
    refine Go.retZ X1 hx hlk hret (by simp) (hb hby d7_9) (by decide) (by decide) ?_
    exact ⟨(by rw [own_is, if_neg (by have q := len_toInt (n := n1) (by omega); omega)]; rfl), N1, hh1⟩
theorem d10_0 : decode prog_55_method_10_code 0 = .ok (.iload_n 2, 1) := by decide +kernel
theorem d10_1 : decode prog_55_method_10_code 1 = .ok (.iload_n 1, 1) := by decide +kernel
theorem d10_2 : decode prog_55_method_10_code 2 = .ok (.isub, 1) := by decide +kernel
theorem d10_3 : decode prog_55_method_10_code 3 = .ok (.tableswitch 188 2 4 #[25, 69, 104], 25) := by decide +kernel
theorem d10_28 : decode prog_55_method_10_code 28 = .ok (.aload_n 0, 1) := by decide +kernel
theorem d10_29 : decode prog_55_method_10_code 29 = .ok (.iload_n 1, 1) := by decide +kernel
theorem d10_30 : decode prog_55_method_10_code 30 = .ok (.iconst 1, 1) := by decide +kernel
theorem d10_31 : decode prog_55_method_10_code 31 = .ok (.iadd, 1) := by decide +kernel
theorem d10_32 : decode prog_55_method_10_code 32 = .ok (.baload, 1) := by decide +kernel
theorem d10_33 : decode prog_55_method_10_code 33 = .ok (.bipush 116, 2) := by decide +kernel
theorem d10_35 : decode prog_55_method_10_code 35 = .ok (.if_icmp .ne 35, 3) := by decide +kernel
theorem d10_38 : decode prog_55_method_10_code 38 = .ok (.aload_n 0, 1) := by decide +kernel
theorem d10_39 : decode prog_55_method_10_code 39 = .ok (.iload_n 1, 1) := by decide +kernel
theorem d10_40 : decode prog_55_method_10_code 40 = .ok (.baload, 1) := by decide +kernel
theorem d10_41 : decode prog_55_method_10_code 41 = .ok (.bipush 108, 2) := by decide +kernel
theorem d10_43 : decode prog_55_method_10_code 43 = .ok (.if_icmp .eq 11, 3) := by decide +kernel
theorem d10_54 : decode prog_55_method_10_code 54 = .ok (.aload_n 0, 1) := by decide +kernel
theorem d10_55 : decode prog_55_method_10_code 55 = .ok (.iload_n 1, 1) := by decide +kernel
theorem d10_56 : decode prog_55_method_10_code 56 = .ok (.baload, 1) := by decide +kernel
theorem d10_57 : decode prog_55_method_10_code 57 = .ok (.bipush 108, 2) := by decide +kernel
theorem d10_59 : decode prog_55_method_10_code 59 = .ok (.if_icmp .ne 8, 3) := by decide +kernel
theorem d10_62 : decode prog_55_method_10_code 62 = .ok (.bipush 60, 2) := by decide +kernel
theorem d10_64 : decode prog_55_method_10_code 64 = .ok (.goto 5, 3) := by decide +kernel
theorem d10_69 : decode prog_55_method_10_code 69 = .ok (.ireturn, 1) := by decide +kernel
theorem d10_46 : decode prog_55_method_10_code 46 = .ok (.aload_n 0, 1) := by decide +kernel
theorem d10_47 : decode prog_55_method_10_code 47 = .ok (.iload_n 1, 1) := by decide +kernel
theorem d10_48 : decode prog_55_method_10_code 48 = .ok (.baload, 1) := by decide +kernel
theorem d10_49 : decode prog_55_method_10_code 49 = .ok (.bipush 103, 2) := by decide +kernel
theorem d10_51 : decode prog_55_method_10_code 51 = .ok (.if_icmp .ne 19, 3) := by decide +kernel
theorem d10_67 : decode prog_55_method_10_code 67 = .ok (.bipush 62, 2) := by decide +kernel
theorem d10_70 : decode prog_55_method_10_code 70 = .ok (.iconst (-1), 1) := by decide +kernel
theorem d10_71 : decode prog_55_method_10_code 71 = .ok (.ireturn, 1) := by decide +kernel
theorem d10_72 : decode prog_55_method_10_code 72 = .ok (.aload_n 0, 1) := by decide +kernel
theorem d10_73 : decode prog_55_method_10_code 73 = .ok (.iload_n 1, 1) := by decide +kernel
theorem d10_74 : decode prog_55_method_10_code 74 = .ok (.baload, 1) := by decide +kernel
theorem d10_75 : decode prog_55_method_10_code 75 = .ok (.bipush 97, 2) := by decide +kernel
theorem d10_77 : decode prog_55_method_10_code 77 = .ok (.if_icmp .ne 28, 3) := by decide +kernel
theorem d10_80 : decode prog_55_method_10_code 80 = .ok (.aload_n 0, 1) := by decide +kernel
theorem d10_81 : decode prog_55_method_10_code 81 = .ok (.iload_n 1, 1) := by decide +kernel
theorem d10_82 : decode prog_55_method_10_code 82 = .ok (.iconst 1, 1) := by decide +kernel
theorem d10_83 : decode prog_55_method_10_code 83 = .ok (.iadd, 1) := by decide +kernel
theorem d10_84 : decode prog_55_method_10_code 84 = .ok (.baload, 1) := by decide +kernel
theorem d10_85 : decode prog_55_method_10_code 85 = .ok (.bipush 109, 2) := by decide +kernel
theorem d10_87 : decode prog_55_method_10_code 87 = .ok (.if_icmp .ne 18, 3) := by decide +kernel
theorem d10_90 : decode prog_55_method_10_code 90 = .ok (.aload_n 0, 1) := by decide +kernel
theorem d10_91 : decode prog_55_method_10_code 91 = .ok (.iload_n 1, 1) := by decide +kernel
theorem d10_92 : decode prog_55_method_10_code 92 = .ok (.iconst 2, 1) := by decide +kernel
theorem d10_93 : decode prog_55_method_10_code 93 = .ok (.iadd, 1) := by decide +kernel
theorem d10_94 : decode prog_55_method_10_code 94 = .ok (.baload, 1) := by decide +kernel
theorem d10_95 : decode prog_55_method_10_code 95 = .ok (.bipush 112, 2) := by decide +kernel
theorem d10_97 : decode prog_55_method_10_code 97 = .ok (.if_icmp .ne 8, 3) := by decide +kernel
theorem d10_100 : decode prog_55_method_10_code 100 = .ok (.bipush 38, 2) := by decide +kernel
theorem d10_102 : decode prog_55_method_10_code 102 = .ok (.goto 4, 3) := by decide +kernel
theorem d10_106 : decode prog_55_method_10_code 106 = .ok (.ireturn, 1) := by decide +kernel
theorem d10_105 : decode prog_55_method_10_code 105 = .ok (.iconst (-1), 1) := by decide +kernel
theorem d10_107 : decode prog_55_method_10_code 107 = .ok (.aload_n 0, 1) := by decide +kernel
theorem d10_108 : decode prog_55_method_10_code 108 = .ok (.iload_n 1, 1) := by decide +kernel
theorem d10_109 : decode prog_55_method_10_code 109 = .ok (.baload, 1) := by decide +kernel
theorem d10_110 : decode prog_55_method_10_code 110 = .ok (.bipush 97, 2) := by decide +kernel
theorem d10_112 : decode prog_55_method_10_code 112 = .ok (.if_icmp .ne 36, 3) := by decide +kernel
theorem d10_115 : decode prog_55_method_10_code 115 = .ok (.aload_n 0, 1) := by decide +kernel
theorem d10_116 : decode prog_55_method_10_code 116 = .ok (.iload_n 1, 1) := by decide +kernel
theorem d10_117 : decode prog_55_method_10_code 117 = .ok (.iconst 1, 1) := by decide +kernel
theorem d10_118 : decode prog_55_method_10_code 118 = .ok (.iadd, 1) := by decide +kernel
theorem d10_119 : decode prog_55_method_10_code 119 = .ok (.baload, 1) := by decide +kernel
theorem d10_120 : decode prog_55_method_10_code 120 = .ok (.bipush 112, 2) := by decide +kernel
theorem d10_122 : decode prog_55_method_10_code 122 = .ok (.if_icmp .ne 26, 3) := by decide +kernel
theorem d10_125 : decode prog_55_method_10_code 125 = .ok (.aload_n 0, 1) := by decide +kernel
theorem d10_126 : decode prog_55_method_10_code 126 = .ok (.iload_n 1, 1) := by decide +kernel
theorem d10_127 : decode prog_55_method_10_code 127 = .ok (.iconst 2, 1) := by decide +kernel
theorem d10_128 : decode prog_55_method_10_code 128 = .ok (.iadd, 1) := by decide +kernel
theorem d10_129 : decode prog_55_method_10_code 129 = .ok (.baload, 1) := by decide +kernel
theorem d10_130 : decode prog_55_method_10_code 130 = .ok (.bipush 111, 2) := by decide +kernel
theorem d10_132 : decode prog_55_method_10_code 132 = .ok (.if_icmp .ne 16, 3) := by decide +kernel
theorem d10_135 : decode prog_55_method_10_code 135 = .ok (.aload_n 0, 1) := by decide +kernel
theorem d10_136 : decode prog_55_method_10_code 136 = .ok (.iload_n 1, 1) := by decide +kernel
theorem d10_137 : decode prog_55_method_10_code 137 = .ok (.iconst 3, 1) := by decide +kernel
theorem d10_138 : decode prog_55_method_10_code 138 = .ok (.iadd, 1) := by decide +kernel
theorem d10_139 : decode prog_55_method_10_code 139 = .ok (.baload, 1) := by decide +kernel
theorem d10_140 : decode prog_55_method_10_code 140 = .ok (.bipush 115, 2) := by decide +kernel
theorem d10_142 : decode prog_55_method_10_code 142 = .ok (.if_icmp .ne 6, 3) := by decide +kernel
theorem d10_145 : decode prog_55_method_10_code 145 = .ok (.bipush 39, 2) := by decide +kernel
theorem d10_147 : decode prog_55_method_10_code 147 = .ok (.ireturn, 1) := by decide +kernel
theorem d10_148 : decode prog_55_method_10_code 148 = .ok (.aload_n 0, 1) := by decide +kernel
theorem d10_149 : decode prog_55_method_10_code 149 = .ok (.iload_n 1, 1) := by decide +kernel
theorem d10_150 : decode prog_55_method_10_code 150 = .ok (.baload, 1) := by decide +kernel
theorem d10_151 : decode prog_55_method_10_code 151 = .ok (.bipush 113, 2) := by decide +kernel
theorem d10_153 : decode prog_55_method_10_code 153 = .ok (.if_icmp .ne 36, 3) := by decide +kernel
theorem d10_189 : decode prog_55_method_10_code 189 = .ok (.iconst (-1), 1) := by decide +kernel
theorem d10_190 : decode prog_55_method_10_code 190 = .ok (.ireturn, 1) := by decide +kernel
theorem d10_156 : decode prog_55_method_10_code 156 = .ok (.aload_n 0, 1) := by decide +kernel
theorem d10_157 : decode prog_55_method_10_code 157 = .ok (.iload_n 1, 1) := by decide +kernel
theorem d10_158 : decode prog_55_method_10_code 158 = .ok (.iconst 1, 1) := by decide +kernel
theorem d10_159 : decode prog_55_method_10_code 159 = .ok (.iadd, 1) := by decide +kernel
theorem d10_160 : decode prog_55_method_10_code 160 = .ok (.baload, 1) := by decide +kernel
theorem d10_161 : decode prog_55_method_10_code 161 = .ok (.bipush 117, 2) := by decide +kernel
theorem d10_163 : decode prog_55_method_10_code 163 = .ok (.if_icmp .ne 26, 3) := by decide +kernel
theorem d10_166 : decode prog_55_method_10_code 166 = .ok (.aload_n 0, 1) := by decide +kernel
theorem d10_167 : decode prog_55_method_10_code 167 = .ok (.iload_n 1, 1) := by decide +kernel
theorem d10_168 : decode prog_55_method_10_code 168 = .ok (.iconst 2, 1) := by decide +kernel
theorem d10_169 : decode prog_55_method_10_code 169 = .ok (.iadd, 1) := by decide +kernel
theorem d10_170 : decode prog_55_method_10_code 170 = .ok (.baload, 1) := by decide +kernel
theorem d10_171 : decode prog_55_method_10_code 171 = .ok (.bipush 111, 2) := by decide +kernel
theorem d10_173 : decode prog_55_method_10_code 173 = .ok (.if_icmp .ne 16, 3) := by decide +kernel
theorem d10_176 : decode prog_55_method_10_code 176 = .ok (.aload_n 0, 1) := by decide +kernel
theorem d10_177 : decode prog_55_method_10_code 177 = .ok (.iload_n 1, 1) := by decide +kernel
theorem d10_178 : decode prog_55_method_10_code 178 = .ok (.iconst 3, 1) := by decide +kernel
theorem d10_179 : decode prog_55_method_10_code 179 = .ok (.iadd, 1) := by decide +kernel
theorem d10_180 : decode prog_55_method_10_code 180 = .ok (.baload, 1) := by decide +kernel
theorem d10_181 : decode prog_55_method_10_code 181 = .ok (.bipush 116, 2) := by decide +kernel
theorem d10_183 : decode prog_55_method_10_code 183 = .ok (.if_icmp .ne 6, 3) := by decide +kernel
theorem d10_186 : decode prog_55_method_10_code 186 = .ok (.bipush 34, 2) := by decide +kernel
theorem d10_188 : decode prog_55_method_10_code 188 = .ok (.ireturn, 1) := by decide +kernel
theorem d10_191 : decode prog_55_method_10_code 191 = .ok (.iconst (-1), 1) := by decide +kernel
theorem d10_192 : decode prog_55_method_10_code 192 = .ok (.ireturn, 1) := by decide +kernel
theorem ef_rm_pre (m : MethodId) (x0 : Addr) (x1 : Int32) (x2 : Int32) : entryFrame m #[(.ref x0), (.int x1), (.int x2)] 3 = mkF m 0 #[.val (.ref x0), .val (.int x1), .val (.int x2)] [] := by first | (simp [entryFrame, mkF, argsToLocals, Value.category]; done) | rfl
theorem pn_com_example_tweak_tags_tweaktags_GeneralEntities : plainName "com/example/tweak_tags/tweaktags/GeneralEntities" = true := by first | (simp [plainName, overriddenIn]; done) | decide +kernel
abbrev Q_rm_pre (Z : State) (y1 : Addr) (i1 : Int32) (i2 : Int32) (g : Nat → Int32) (s0 : Nat) (l0 : Nat) (h0 : Heap) (n0 : Nat) : Option Value → Heap → List Loc → Prop := fun v h L => v = some (.int (own_pre g s0 l0)) ∧ Fr n0 L ∧ h = h0
set_option maxRecDepth 65536 in
set_option maxHeartbeats 40000000 in
theorem rm_pre (l : Launch) (Z : State) (a0 : Array Value) (hw : ∀ d ∈ tables_1, d.before a0 Z = true) (y1 : Addr) (i1 : Int32) (i2 : Int32) (g : Nat → Int32) (s0 : Nat) (l0 : Nat) (h0 : Heap) (n0 : Nat) (Z0 : n0 ≤ h0.size) (P0 : ArF Z h0 y1 .byte 6 (fun i => .int (g i))) (hi1 : i1.toInt = (s0 : Int)) (hi2 : i2.toInt = ((s0 + l0 : Nat) : Int)) (hs1 : s0 ≤ 1) (hl5 : l0 ≤ 5) :
    Con l Z (⟨"com/example/tweak_tags/tweaktags/GeneralEntities", "predefined", "([BII)I"⟩ : MethodName) prog_55_method_10_code 3 (some .int) ({ frames := 0, cells := 0, slots := 0, locals := 0 } : Room) #[(.ref y1), (.int i1), (.int i2)] h0 (Q_rm_pre Z y1 i1 i2 g s0 l0 h0 n0) := by
  refine meet (y := (⟨"com/example/tweak_tags/tweaktags/GeneralEntities", "predefined", "([BII)I"⟩ : MethodName)) (Q := Q_rm_pre Z y1 i1 i2 g s0 l0 h0 n0) (plainFor_of_name pn_com_example_tweak_tags_tweaktags_GeneralEntities) (fun m => ef_rm_pre m y1 i1 i2) ?_
  intro p e s m below meth c T0 hx hby hml hZ hown hnm hret hlk X0 e0
  have N0 := Fr.nil n0
  refine g_iloadN X0 hx hby d10_0 (pc' := 1) rfl rfl ?_
  refine g_iloadN X0 hx hby d10_1 (pc' := 2) rfl rfl ?_
  refine g_isub X0 hx hby d10_2 (pc' := 3) rfl rfl ?_
  have hd3 : (i2 - i1).toInt = (l0 : Int) := by have : ((i2 - i1).toInt - (i2.toInt - i1.toInt)) % 4294967296 = 0 := c_isub _ _; have : -2147483648 ≤ (i2 - i1).toInt ∧ (i2 - i1).toInt < 2147483648 := rng32 _; have : -2147483648 ≤ i2.toInt ∧ i2.toInt < 2147483648 := rng32 _; have : -2147483648 ≤ i1.toInt ∧ i1.toInt < 2147483648 := rng32 _; omega
  by_cases q2 : l0 = 2
  · refine Go.of (fun _ k => XS.tswIn X0.here hx rfl (pc0 := 3) (pc' := 28) rfl (hb hby d10_3) rfl (by omega) (o := 25) (by rw [hd3, q2]; rfl) (by decide) (by decide) k) ?_
    show Go p.tables e below s _ _ _ (T0.setTop (mkF m 28 #[.val (.ref y1), .val (.int i1), .val (.int i2)] []))
    refine g_aloadN X0 hx hby d10_28 (pc' := 29) rfl rfl rfl ?_
    refine g_iloadN X0 hx hby d10_29 (pc' := 30) rfl rfl ?_
    refine g_iconst X0 hx hby d10_30 (pc' := 31) rfl (z := (1 : Int32)) rfl ?_
    refine g_iadd X0 hx hby d10_31 (pc' := 32) rfl rfl ?_
    refine Go.baload X0 hx hZ e0 P0 (k := (s0 + 1)) (by have : ((i1 + (1 : Int32)).toInt - (i1.toInt + (1))) % 4294967296 = 0 := c_iadd _ _; have : -2147483648 ≤ (i1 + (1 : Int32)).toInt ∧ (i1 + (1 : Int32)).toInt < 2147483648 := rng32 _; have : -2147483648 ≤ i1.toInt ∧ i1.toInt < 2147483648 := rng32 _; omega) (by omega) rfl (hb hby d10_32) (pc' := 33) rfl ?_
    refine g_bipush X0 hx hby d10_33 (pc' := 35) rfl (z := (116 : Int32)) rfl ?_
    by_cases hc35 : (g (s0 + 1)).toInt = (116 : Int)
    · refine g_icmpNo X0 hx hby d10_35 (pc' := 38) (teq (show (g (s0 + 1)) = (116 : Int32) from Int32.toInt_inj.mp hc35)).2 rfl ?_
      refine g_aloadN X0 hx hby d10_38 (pc' := 39) rfl rfl rfl ?_
      refine g_iloadN X0 hx hby d10_39 (pc' := 40) rfl rfl ?_
      refine Go.baload X0 hx hZ e0 P0 (k := (s0 + 0)) (by omega) (by omega) rfl (hb hby d10_40) (pc' := 41) rfl ?_
      refine g_bipush X0 hx hby d10_41 (pc' := 43) rfl (z := (108 : Int32)) rfl ?_
      by_cases hc43 : (g (s0 + 0)).toInt = (108 : Int)
      · refine g_icmpYes X0 hx hby d10_43 (pc' := 54) (teq (show (g (s0 + 0)) = (108 : Int32) from Int32.toInt_inj.mp hc43)).1 (by decide) (by decide) ?_
        refine g_aloadN X0 hx hby d10_54 (pc' := 55) rfl rfl rfl ?_
        refine g_iloadN X0 hx hby d10_55 (pc' := 56) rfl rfl ?_
        refine Go.baload X0 hx hZ e0 P0 (k := (s0 + 0)) (by omega) (by omega) rfl (hb hby d10_56) (pc' := 57) rfl ?_
        refine g_bipush X0 hx hby d10_57 (pc' := 59) rfl (z := (108 : Int32)) rfl ?_
        have hc59 : (g (s0 + 0)).toInt = (108 : Int) := by omega
        refine g_icmpNo X0 hx hby d10_59 (pc' := 62) (teq (show (g (s0 + 0)) = (108 : Int32) from Int32.toInt_inj.mp hc59)).2 rfl ?_
        refine g_bipush X0 hx hby d10_62 (pc' := 64) rfl (z := (60 : Int32)) rfl ?_
        refine g_goto X0 hx hby d10_64 (pc' := 69) (by decide) (by decide) ?_
        refine Go.retI X0 hx hlk hret (hb hby d10_69) (by decide) (by decide) ?_
        exact ⟨(by unfold own_pre; (repeat' split); all_goals (first | rfl | (exfalso; omega))), N0, e0⟩
      · refine g_icmpNo X0 hx hby d10_43 (pc' := 46) (feq (show ¬ ((g (s0 + 0)) = (108 : Int32)) from fun q => hc43 (congrArg Int32.toInt q))).1 rfl ?_
        refine g_aloadN X0 hx hby d10_46 (pc' := 47) rfl rfl rfl ?_
        refine g_iloadN X0 hx hby d10_47 (pc' := 48) rfl rfl ?_
        refine Go.baload X0 hx hZ e0 P0 (k := (s0 + 0)) (by omega) (by omega) rfl (hb hby d10_48) (pc' := 49) rfl ?_
        refine g_bipush X0 hx hby d10_49 (pc' := 51) rfl (z := (103 : Int32)) rfl ?_
        by_cases hc51 : (g (s0 + 0)).toInt = (103 : Int)
        · refine g_icmpNo X0 hx hby d10_51 (pc' := 54) (teq (show (g (s0 + 0)) = (103 : Int32) from Int32.toInt_inj.mp hc51)).2 rfl ?_
          refine g_aloadN X0 hx hby d10_54 (pc' := 55) rfl rfl rfl ?_
          refine g_iloadN X0 hx hby d10_55 (pc' := 56) rfl rfl ?_
          refine Go.baload X0 hx hZ e0 P0 (k := (s0 + 0)) (by omega) (by omega) rfl (hb hby d10_56) (pc' := 57) rfl ?_
          refine g_bipush X0 hx hby d10_57 (pc' := 59) rfl (z := (108 : Int32)) rfl ?_
          have hc59 : ¬ ((g (s0 + 0)).toInt = (108 : Int)) := by omega
          refine g_icmpYes X0 hx hby d10_59 (pc' := 67) (feq (show ¬ ((g (s0 + 0)) = (108 : Int32)) from fun q => hc59 (congrArg Int32.toInt q))).2 (by decide) (by decide) ?_
          refine g_bipush X0 hx hby d10_67 (pc' := 69) rfl (z := (62 : Int32)) rfl ?_
          refine Go.retI X0 hx hlk hret (hb hby d10_69) (by decide) (by decide) ?_
          exact ⟨(by unfold own_pre; (repeat' split); all_goals (first | rfl | (exfalso; omega))), N0, e0⟩
        · refine g_icmpYes X0 hx hby d10_51 (pc' := 70) (feq (show ¬ ((g (s0 + 0)) = (103 : Int32)) from fun q => hc51 (congrArg Int32.toInt q))).2 (by decide) (by decide) ?_
          refine g_iconst X0 hx hby d10_70 (pc' := 71) rfl (z := (-1 : Int32)) rfl ?_
          refine Go.retI X0 hx hlk hret (hb hby d10_71) (by decide) (by decide) ?_
          exact ⟨(by unfold own_pre; (repeat' split); all_goals (first | rfl | (exfalso; omega))), N0, e0⟩
    · refine g_icmpYes X0 hx hby d10_35 (pc' := 70) (feq (show ¬ ((g (s0 + 1)) = (116 : Int32)) from fun q => hc35 (congrArg Int32.toInt q))).2 (by decide) (by decide) ?_
      refine g_iconst X0 hx hby d10_70 (pc' := 71) rfl (z := (-1 : Int32)) rfl ?_
      refine Go.retI X0 hx hlk hret (hb hby d10_71) (by decide) (by decide) ?_
      exact ⟨(by unfold own_pre; (repeat' split); all_goals (first | rfl | (exfalso; omega))), N0, e0⟩
  · by_cases q3 : l0 = 3
    · refine Go.of (fun _ k => XS.tswIn X0.here hx rfl (pc0 := 3) (pc' := 72) rfl (hb hby d10_3) rfl (by omega) (o := 69) (by rw [hd3, q3]; rfl) (by decide) (by decide) k) ?_
      show Go p.tables e below s _ _ _ (T0.setTop (mkF m 72 #[.val (.ref y1), .val (.int i1), .val (.int i2)] []))
      refine g_aloadN X0 hx hby d10_72 (pc' := 73) rfl rfl rfl ?_
      refine g_iloadN X0 hx hby d10_73 (pc' := 74) rfl rfl ?_
      refine Go.baload X0 hx hZ e0 P0 (k := (s0 + 0)) (by omega) (by omega) rfl (hb hby d10_74) (pc' := 75) rfl ?_
      refine g_bipush X0 hx hby d10_75 (pc' := 77) rfl (z := (97 : Int32)) rfl ?_
      by_cases hc77 : (g (s0 + 0)).toInt = (97 : Int)
      · refine g_icmpNo X0 hx hby d10_77 (pc' := 80) (teq (show (g (s0 + 0)) = (97 : Int32) from Int32.toInt_inj.mp hc77)).2 rfl ?_
        refine g_aloadN X0 hx hby d10_80 (pc' := 81) rfl rfl rfl ?_
        refine g_iloadN X0 hx hby d10_81 (pc' := 82) rfl rfl ?_
        refine g_iconst X0 hx hby d10_82 (pc' := 83) rfl (z := (1 : Int32)) rfl ?_
        refine g_iadd X0 hx hby d10_83 (pc' := 84) rfl rfl ?_
        refine Go.baload X0 hx hZ e0 P0 (k := (s0 + 1)) (by have : ((i1 + (1 : Int32)).toInt - (i1.toInt + (1))) % 4294967296 = 0 := c_iadd _ _; have : -2147483648 ≤ (i1 + (1 : Int32)).toInt ∧ (i1 + (1 : Int32)).toInt < 2147483648 := rng32 _; have : -2147483648 ≤ i1.toInt ∧ i1.toInt < 2147483648 := rng32 _; omega) (by omega) rfl (hb hby d10_84) (pc' := 85) rfl ?_
        refine g_bipush X0 hx hby d10_85 (pc' := 87) rfl (z := (109 : Int32)) rfl ?_
        by_cases hc87 : (g (s0 + 1)).toInt = (109 : Int)
        · refine g_icmpNo X0 hx hby d10_87 (pc' := 90) (teq (show (g (s0 + 1)) = (109 : Int32) from Int32.toInt_inj.mp hc87)).2 rfl ?_
          refine g_aloadN X0 hx hby d10_90 (pc' := 91) rfl rfl rfl ?_
          refine g_iloadN X0 hx hby d10_91 (pc' := 92) rfl rfl ?_
          refine g_iconst X0 hx hby d10_92 (pc' := 93) rfl (z := (2 : Int32)) rfl ?_
          refine g_iadd X0 hx hby d10_93 (pc' := 94) rfl rfl ?_
          refine Go.baload X0 hx hZ e0 P0 (k := (s0 + 2)) (by have : ((i1 + (2 : Int32)).toInt - (i1.toInt + (2))) % 4294967296 = 0 := c_iadd _ _; have : -2147483648 ≤ (i1 + (2 : Int32)).toInt ∧ (i1 + (2 : Int32)).toInt < 2147483648 := rng32 _; have : -2147483648 ≤ i1.toInt ∧ i1.toInt < 2147483648 := rng32 _; omega) (by omega) rfl (hb hby d10_94) (pc' := 95) rfl ?_
          refine g_bipush X0 hx hby d10_95 (pc' := 97) rfl (z := (112 : Int32)) rfl ?_
          by_cases hc97 : (g (s0 + 2)).toInt = (112 : Int)
          · refine g_icmpNo X0 hx hby d10_97 (pc' := 100) (teq (show (g (s0 + 2)) = (112 : Int32) from Int32.toInt_inj.mp hc97)).2 rfl ?_
            refine g_bipush X0 hx hby d10_100 (pc' := 102) rfl (z := (38 : Int32)) rfl ?_
            refine g_goto X0 hx hby d10_102 (pc' := 106) (by decide) (by decide) ?_
            refine Go.retI X0 hx hlk hret (hb hby d10_106) (by decide) (by decide) ?_
            exact ⟨(by unfold own_pre; (repeat' split); all_goals (first | rfl | (exfalso; omega))), N0, e0⟩
          · refine g_icmpYes X0 hx hby d10_97 (pc' := 105) (feq (show ¬ ((g (s0 + 2)) = (112 : Int32)) from fun q => hc97 (congrArg Int32.toInt q))).2 (by decide) (by decide) ?_
            refine g_iconst X0 hx hby d10_105 (pc' := 106) rfl (z := (-1 : Int32)) rfl ?_
            refine Go.retI X0 hx hlk hret (hb hby d10_106) (by decide) (by decide) ?_
            exact ⟨(by unfold own_pre; (repeat' split); all_goals (first | rfl | (exfalso; omega))), N0, e0⟩
        · refine g_icmpYes X0 hx hby d10_87 (pc' := 105) (feq (show ¬ ((g (s0 + 1)) = (109 : Int32)) from fun q => hc87 (congrArg Int32.toInt q))).2 (by decide) (by decide) ?_
          refine g_iconst X0 hx hby d10_105 (pc' := 106) rfl (z := (-1 : Int32)) rfl ?_
          refine Go.retI X0 hx hlk hret (hb hby d10_106) (by decide) (by decide) ?_
          exact ⟨(by unfold own_pre; (repeat' split); all_goals (first | rfl | (exfalso; omega))), N0, e0⟩
      · refine g_icmpYes X0 hx hby d10_77 (pc' := 105) (feq (show ¬ ((g (s0 + 0)) = (97 : Int32)) from fun q => hc77 (congrArg Int32.toInt q))).2 (by decide) (by decide) ?_
        refine g_iconst X0 hx hby d10_105 (pc' := 106) rfl (z := (-1 : Int32)) rfl ?_
        refine Go.retI X0 hx hlk hret (hb hby d10_106) (by decide) (by decide) ?_
        exact ⟨(by unfold own_pre; (repeat' split); all_goals (first | rfl | (exfalso; omega))), N0, e0⟩
    · by_cases q4 : l0 = 4
      · refine Go.of (fun _ k => XS.tswIn X0.here hx rfl (pc0 := 3) (pc' := 107) rfl (hb hby d10_3) rfl (by omega) (o := 104) (by rw [hd3, q4]; rfl) (by decide) (by decide) k) ?_
        show Go p.tables e below s _ _ _ (T0.setTop (mkF m 107 #[.val (.ref y1), .val (.int i1), .val (.int i2)] []))
        refine g_aloadN X0 hx hby d10_107 (pc' := 108) rfl rfl rfl ?_
        refine g_iloadN X0 hx hby d10_108 (pc' := 109) rfl rfl ?_
        refine Go.baload X0 hx hZ e0 P0 (k := (s0 + 0)) (by omega) (by omega) rfl (hb hby d10_109) (pc' := 110) rfl ?_
        refine g_bipush X0 hx hby d10_110 (pc' := 112) rfl (z := (97 : Int32)) rfl ?_
        by_cases hc112 : (g (s0 + 0)).toInt = (97 : Int)
        · refine g_icmpNo X0 hx hby d10_112 (pc' := 115) (teq (show (g (s0 + 0)) = (97 : Int32) from Int32.toInt_inj.mp hc112)).2 rfl ?_
          refine g_aloadN X0 hx hby d10_115 (pc' := 116) rfl rfl rfl ?_
          refine g_iloadN X0 hx hby d10_116 (pc' := 117) rfl rfl ?_
          refine g_iconst X0 hx hby d10_117 (pc' := 118) rfl (z := (1 : Int32)) rfl ?_
          refine g_iadd X0 hx hby d10_118 (pc' := 119) rfl rfl ?_
          refine Go.baload X0 hx hZ e0 P0 (k := (s0 + 1)) (by have : ((i1 + (1 : Int32)).toInt - (i1.toInt + (1))) % 4294967296 = 0 := c_iadd _ _; have : -2147483648 ≤ (i1 + (1 : Int32)).toInt ∧ (i1 + (1 : Int32)).toInt < 2147483648 := rng32 _; have : -2147483648 ≤ i1.toInt ∧ i1.toInt < 2147483648 := rng32 _; omega) (by omega) rfl (hb hby d10_119) (pc' := 120) rfl ?_
          refine g_bipush X0 hx hby d10_120 (pc' := 122) rfl (z := (112 : Int32)) rfl ?_
          by_cases hc122 : (g (s0 + 1)).toInt = (112 : Int)
          · refine g_icmpNo X0 hx hby d10_122 (pc' := 125) (teq (show (g (s0 + 1)) = (112 : Int32) from Int32.toInt_inj.mp hc122)).2 rfl ?_
            refine g_aloadN X0 hx hby d10_125 (pc' := 126) rfl rfl rfl ?_
            refine g_iloadN X0 hx hby d10_126 (pc' := 127) rfl rfl ?_
            refine g_iconst X0 hx hby d10_127 (pc' := 128) rfl (z := (2 : Int32)) rfl ?_
            refine g_iadd X0 hx hby d10_128 (pc' := 129) rfl rfl ?_
            refine Go.baload X0 hx hZ e0 P0 (k := (s0 + 2)) (by have : ((i1 + (2 : Int32)).toInt - (i1.toInt + (2))) % 4294967296 = 0 := c_iadd _ _; have : -2147483648 ≤ (i1 + (2 : Int32)).toInt ∧ (i1 + (2 : Int32)).toInt < 2147483648 := rng32 _; have : -2147483648 ≤ i1.toInt ∧ i1.toInt < 2147483648 := rng32 _; omega) (by omega) rfl (hb hby d10_129) (pc' := 130) rfl ?_
            refine g_bipush X0 hx hby d10_130 (pc' := 132) rfl (z := (111 : Int32)) rfl ?_
            by_cases hc132 : (g (s0 + 2)).toInt = (111 : Int)
            · refine g_icmpNo X0 hx hby d10_132 (pc' := 135) (teq (show (g (s0 + 2)) = (111 : Int32) from Int32.toInt_inj.mp hc132)).2 rfl ?_
              refine g_aloadN X0 hx hby d10_135 (pc' := 136) rfl rfl rfl ?_
              refine g_iloadN X0 hx hby d10_136 (pc' := 137) rfl rfl ?_
              refine g_iconst X0 hx hby d10_137 (pc' := 138) rfl (z := (3 : Int32)) rfl ?_
              refine g_iadd X0 hx hby d10_138 (pc' := 139) rfl rfl ?_
              refine Go.baload X0 hx hZ e0 P0 (k := (s0 + 3)) (by have : ((i1 + (3 : Int32)).toInt - (i1.toInt + (3))) % 4294967296 = 0 := c_iadd _ _; have : -2147483648 ≤ (i1 + (3 : Int32)).toInt ∧ (i1 + (3 : Int32)).toInt < 2147483648 := rng32 _; have : -2147483648 ≤ i1.toInt ∧ i1.toInt < 2147483648 := rng32 _; omega) (by omega) rfl (hb hby d10_139) (pc' := 140) rfl ?_
              refine g_bipush X0 hx hby d10_140 (pc' := 142) rfl (z := (115 : Int32)) rfl ?_
              by_cases hc142 : (g (s0 + 3)).toInt = (115 : Int)
              · refine g_icmpNo X0 hx hby d10_142 (pc' := 145) (teq (show (g (s0 + 3)) = (115 : Int32) from Int32.toInt_inj.mp hc142)).2 rfl ?_
                refine g_bipush X0 hx hby d10_145 (pc' := 147) rfl (z := (39 : Int32)) rfl ?_
                refine Go.retI X0 hx hlk hret (hb hby d10_147) (by decide) (by decide) ?_
                exact ⟨(by unfold own_pre; (repeat' split); all_goals (first | rfl | (exfalso; omega))), N0, e0⟩
              · refine g_icmpYes X0 hx hby d10_142 (pc' := 148) (feq (show ¬ ((g (s0 + 3)) = (115 : Int32)) from fun q => hc142 (congrArg Int32.toInt q))).2 (by decide) (by decide) ?_
                refine g_aloadN X0 hx hby d10_148 (pc' := 149) rfl rfl rfl ?_
                refine g_iloadN X0 hx hby d10_149 (pc' := 150) rfl rfl ?_
                refine Go.baload X0 hx hZ e0 P0 (k := (s0 + 0)) (by omega) (by omega) rfl (hb hby d10_150) (pc' := 151) rfl ?_
                refine g_bipush X0 hx hby d10_151 (pc' := 153) rfl (z := (113 : Int32)) rfl ?_
                have hc153 : ¬ ((g (s0 + 0)).toInt = (113 : Int)) := by omega
                refine g_icmpYes X0 hx hby d10_153 (pc' := 189) (feq (show ¬ ((g (s0 + 0)) = (113 : Int32)) from fun q => hc153 (congrArg Int32.toInt q))).2 (by decide) (by decide) ?_
                refine g_iconst X0 hx hby d10_189 (pc' := 190) rfl (z := (-1 : Int32)) rfl ?_
                refine Go.retI X0 hx hlk hret (hb hby d10_190) (by decide) (by decide) ?_
                exact ⟨(by unfold own_pre; (repeat' split); all_goals (first | rfl | (exfalso; omega))), N0, e0⟩
            · refine g_icmpYes X0 hx hby d10_132 (pc' := 148) (feq (show ¬ ((g (s0 + 2)) = (111 : Int32)) from fun q => hc132 (congrArg Int32.toInt q))).2 (by decide) (by decide) ?_
              refine g_aloadN X0 hx hby d10_148 (pc' := 149) rfl rfl rfl ?_
              refine g_iloadN X0 hx hby d10_149 (pc' := 150) rfl rfl ?_
              refine Go.baload X0 hx hZ e0 P0 (k := (s0 + 0)) (by omega) (by omega) rfl (hb hby d10_150) (pc' := 151) rfl ?_
              refine g_bipush X0 hx hby d10_151 (pc' := 153) rfl (z := (113 : Int32)) rfl ?_
              have hc153 : ¬ ((g (s0 + 0)).toInt = (113 : Int)) := by omega
              refine g_icmpYes X0 hx hby d10_153 (pc' := 189) (feq (show ¬ ((g (s0 + 0)) = (113 : Int32)) from fun q => hc153 (congrArg Int32.toInt q))).2 (by decide) (by decide) ?_
              refine g_iconst X0 hx hby d10_189 (pc' := 190) rfl (z := (-1 : Int32)) rfl ?_
              refine Go.retI X0 hx hlk hret (hb hby d10_190) (by decide) (by decide) ?_
              exact ⟨(by unfold own_pre; (repeat' split); all_goals (first | rfl | (exfalso; omega))), N0, e0⟩
          · refine g_icmpYes X0 hx hby d10_122 (pc' := 148) (feq (show ¬ ((g (s0 + 1)) = (112 : Int32)) from fun q => hc122 (congrArg Int32.toInt q))).2 (by decide) (by decide) ?_
            refine g_aloadN X0 hx hby d10_148 (pc' := 149) rfl rfl rfl ?_
            refine g_iloadN X0 hx hby d10_149 (pc' := 150) rfl rfl ?_
            refine Go.baload X0 hx hZ e0 P0 (k := (s0 + 0)) (by omega) (by omega) rfl (hb hby d10_150) (pc' := 151) rfl ?_
            refine g_bipush X0 hx hby d10_151 (pc' := 153) rfl (z := (113 : Int32)) rfl ?_
            have hc153 : ¬ ((g (s0 + 0)).toInt = (113 : Int)) := by omega
            refine g_icmpYes X0 hx hby d10_153 (pc' := 189) (feq (show ¬ ((g (s0 + 0)) = (113 : Int32)) from fun q => hc153 (congrArg Int32.toInt q))).2 (by decide) (by decide) ?_
            refine g_iconst X0 hx hby d10_189 (pc' := 190) rfl (z := (-1 : Int32)) rfl ?_
            refine Go.retI X0 hx hlk hret (hb hby d10_190) (by decide) (by decide) ?_
            exact ⟨(by unfold own_pre; (repeat' split); all_goals (first | rfl | (exfalso; omega))), N0, e0⟩
        · refine g_icmpYes X0 hx hby d10_112 (pc' := 148) (feq (show ¬ ((g (s0 + 0)) = (97 : Int32)) from fun q => hc112 (congrArg Int32.toInt q))).2 (by decide) (by decide) ?_
          refine g_aloadN X0 hx hby d10_148 (pc' := 149) rfl rfl rfl ?_
          refine g_iloadN X0 hx hby d10_149 (pc' := 150) rfl rfl ?_
          refine Go.baload X0 hx hZ e0 P0 (k := (s0 + 0)) (by omega) (by omega) rfl (hb hby d10_150) (pc' := 151) rfl ?_
          refine g_bipush X0 hx hby d10_151 (pc' := 153) rfl (z := (113 : Int32)) rfl ?_
          by_cases hc153 : (g (s0 + 0)).toInt = (113 : Int)
          · refine g_icmpNo X0 hx hby d10_153 (pc' := 156) (teq (show (g (s0 + 0)) = (113 : Int32) from Int32.toInt_inj.mp hc153)).2 rfl ?_
            refine g_aloadN X0 hx hby d10_156 (pc' := 157) rfl rfl rfl ?_
            refine g_iloadN X0 hx hby d10_157 (pc' := 158) rfl rfl ?_
            refine g_iconst X0 hx hby d10_158 (pc' := 159) rfl (z := (1 : Int32)) rfl ?_
            refine g_iadd X0 hx hby d10_159 (pc' := 160) rfl rfl ?_
            refine Go.baload X0 hx hZ e0 P0 (k := (s0 + 1)) (by have : ((i1 + (1 : Int32)).toInt - (i1.toInt + (1))) % 4294967296 = 0 := c_iadd _ _; have : -2147483648 ≤ (i1 + (1 : Int32)).toInt ∧ (i1 + (1 : Int32)).toInt < 2147483648 := rng32 _; have : -2147483648 ≤ i1.toInt ∧ i1.toInt < 2147483648 := rng32 _; omega) (by omega) rfl (hb hby d10_160) (pc' := 161) rfl ?_
            refine g_bipush X0 hx hby d10_161 (pc' := 163) rfl (z := (117 : Int32)) rfl ?_
            by_cases hc163 : (g (s0 + 1)).toInt = (117 : Int)
            · refine g_icmpNo X0 hx hby d10_163 (pc' := 166) (teq (show (g (s0 + 1)) = (117 : Int32) from Int32.toInt_inj.mp hc163)).2 rfl ?_
              refine g_aloadN X0 hx hby d10_166 (pc' := 167) rfl rfl rfl ?_
              refine g_iloadN X0 hx hby d10_167 (pc' := 168) rfl rfl ?_
              refine g_iconst X0 hx hby d10_168 (pc' := 169) rfl (z := (2 : Int32)) rfl ?_
              refine g_iadd X0 hx hby d10_169 (pc' := 170) rfl rfl ?_
              refine Go.baload X0 hx hZ e0 P0 (k := (s0 + 2)) (by have : ((i1 + (2 : Int32)).toInt - (i1.toInt + (2))) % 4294967296 = 0 := c_iadd _ _; have : -2147483648 ≤ (i1 + (2 : Int32)).toInt ∧ (i1 + (2 : Int32)).toInt < 2147483648 := rng32 _; have : -2147483648 ≤ i1.toInt ∧ i1.toInt < 2147483648 := rng32 _; omega) (by omega) rfl (hb hby d10_170) (pc' := 171) rfl ?_
              refine g_bipush X0 hx hby d10_171 (pc' := 173) rfl (z := (111 : Int32)) rfl ?_
              by_cases hc173 : (g (s0 + 2)).toInt = (111 : Int)
              · refine g_icmpNo X0 hx hby d10_173 (pc' := 176) (teq (show (g (s0 + 2)) = (111 : Int32) from Int32.toInt_inj.mp hc173)).2 rfl ?_
                refine g_aloadN X0 hx hby d10_176 (pc' := 177) rfl rfl rfl ?_
                refine g_iloadN X0 hx hby d10_177 (pc' := 178) rfl rfl ?_
                refine g_iconst X0 hx hby d10_178 (pc' := 179) rfl (z := (3 : Int32)) rfl ?_
                refine g_iadd X0 hx hby d10_179 (pc' := 180) rfl rfl ?_
                refine Go.baload X0 hx hZ e0 P0 (k := (s0 + 3)) (by have : ((i1 + (3 : Int32)).toInt - (i1.toInt + (3))) % 4294967296 = 0 := c_iadd _ _; have : -2147483648 ≤ (i1 + (3 : Int32)).toInt ∧ (i1 + (3 : Int32)).toInt < 2147483648 := rng32 _; have : -2147483648 ≤ i1.toInt ∧ i1.toInt < 2147483648 := rng32 _; omega) (by omega) rfl (hb hby d10_180) (pc' := 181) rfl ?_
                refine g_bipush X0 hx hby d10_181 (pc' := 183) rfl (z := (116 : Int32)) rfl ?_
                by_cases hc183 : (g (s0 + 3)).toInt = (116 : Int)
                · refine g_icmpNo X0 hx hby d10_183 (pc' := 186) (teq (show (g (s0 + 3)) = (116 : Int32) from Int32.toInt_inj.mp hc183)).2 rfl ?_
                  refine g_bipush X0 hx hby d10_186 (pc' := 188) rfl (z := (34 : Int32)) rfl ?_
                  refine Go.retI X0 hx hlk hret (hb hby d10_188) (by decide) (by decide) ?_
                  exact ⟨(by unfold own_pre; (repeat' split); all_goals (first | rfl | (exfalso; omega))), N0, e0⟩
                · refine g_icmpYes X0 hx hby d10_183 (pc' := 189) (feq (show ¬ ((g (s0 + 3)) = (116 : Int32)) from fun q => hc183 (congrArg Int32.toInt q))).2 (by decide) (by decide) ?_
                  refine g_iconst X0 hx hby d10_189 (pc' := 190) rfl (z := (-1 : Int32)) rfl ?_
                  refine Go.retI X0 hx hlk hret (hb hby d10_190) (by decide) (by decide) ?_
                  exact ⟨(by unfold own_pre; (repeat' split); all_goals (first | rfl | (exfalso; omega))), N0, e0⟩
              · refine g_icmpYes X0 hx hby d10_173 (pc' := 189) (feq (show ¬ ((g (s0 + 2)) = (111 : Int32)) from fun q => hc173 (congrArg Int32.toInt q))).2 (by decide) (by decide) ?_
                refine g_iconst X0 hx hby d10_189 (pc' := 190) rfl (z := (-1 : Int32)) rfl ?_
                refine Go.retI X0 hx hlk hret (hb hby d10_190) (by decide) (by decide) ?_
                exact ⟨(by unfold own_pre; (repeat' split); all_goals (first | rfl | (exfalso; omega))), N0, e0⟩
            · refine g_icmpYes X0 hx hby d10_163 (pc' := 189) (feq (show ¬ ((g (s0 + 1)) = (117 : Int32)) from fun q => hc163 (congrArg Int32.toInt q))).2 (by decide) (by decide) ?_
              refine g_iconst X0 hx hby d10_189 (pc' := 190) rfl (z := (-1 : Int32)) rfl ?_
              refine Go.retI X0 hx hlk hret (hb hby d10_190) (by decide) (by decide) ?_
              exact ⟨(by unfold own_pre; (repeat' split); all_goals (first | rfl | (exfalso; omega))), N0, e0⟩
          · refine g_icmpYes X0 hx hby d10_153 (pc' := 189) (feq (show ¬ ((g (s0 + 0)) = (113 : Int32)) from fun q => hc153 (congrArg Int32.toInt q))).2 (by decide) (by decide) ?_
            refine g_iconst X0 hx hby d10_189 (pc' := 190) rfl (z := (-1 : Int32)) rfl ?_
            refine Go.retI X0 hx hlk hret (hb hby d10_190) (by decide) (by decide) ?_
            exact ⟨(by unfold own_pre; (repeat' split); all_goals (first | rfl | (exfalso; omega))), N0, e0⟩
      · refine Go.of (fun _ k => XS.tswOut X0.here hx rfl (pc0 := 3) (pc' := 191) rfl (hb hby d10_3) rfl (by omega) (by decide) (by decide) k) ?_
        show Go p.tables e below s _ _ _ (T0.setTop (mkF m 191 #[.val (.ref y1), .val (.int i1), .val (.int i2)] []))
        refine g_iconst X0 hx hby d10_191 (pc' := 192) rfl (z := (-1 : Int32)) rfl ?_
        refine Go.retI X0 hx hlk hret (hb hby d10_192) (by decide) (by decide) ?_
        exact ⟨(by unfold own_pre; (repeat' split); all_goals (first | rfl | (exfalso; omega))), N0, e0⟩
theorem d1_0 : decode method_2_code 0 = .ok (.iload_n 0, 1) := by decide +kernel
theorem d1_1 : decode method_2_code 1 = .ok (.sipush 256, 3) := by decide +kernel
theorem d1_4 : decode method_2_code 4 = .ok (.iand, 1) := by decide +kernel
theorem d1_5 : decode method_2_code 5 = .ok (.ifCond .eq 6, 3) := by decide +kernel
theorem d1_11 : decode method_2_code 11 = .ok (.ldc 7, 2) := by decide +kernel
theorem tl_7 : (∀ c ∈ "lgtampoqus".toList, c.toNat < 256) ∧ "lgtampoqus".toList.map (fun c => Value.int (Jvm.Lit.byteI c.toNat.toUInt16)) = [.int 108, .int 103, .int 116, .int 97, .int 109, .int 112, .int 111, .int 113, .int 117, .int 115] := ⟨by decide +kernel, by decide +kernel⟩
theorem d1_13 : decode method_2_code 13 = .ok (.astore_n 1, 1) := by decide +kernel
theorem d1_14 : decode method_2_code 14 = .ok (.aload_n 1, 1) := by decide +kernel
theorem d1_15 : decode method_2_code 15 = .ok (.iload_n 0, 1) := by decide +kernel
theorem d1_16 : decode method_2_code 16 = .ok (.bipush 9, 2) := by decide +kernel
theorem d1_18 : decode method_2_code 18 = .ok (.iushr, 1) := by decide +kernel
theorem d1_19 : decode method_2_code 19 = .ok (.bipush 15, 2) := by decide +kernel
theorem d1_21 : decode method_2_code 21 = .ok (.iand, 1) := by decide +kernel
theorem d1_22 : decode method_2_code 22 = .ok (.bipush 10, 2) := by decide +kernel
theorem d1_24 : decode method_2_code 24 = .ok (.irem, 1) := by decide +kernel
theorem d1_25 : decode method_2_code 25 = .ok (.invokevirtual 9, 3) := by decide +kernel
theorem d1_28 : decode method_2_code 28 = .ok (.i2b, 1) := by decide +kernel
theorem d1_29 : decode method_2_code 29 = .ok (.ireturn, 1) := by decide +kernel
theorem d1_8 : decode method_2_code 8 = .ok (.iload_n 0, 1) := by decide +kernel
theorem d1_9 : decode method_2_code 9 = .ok (.i2b, 1) := by decide +kernel
theorem d1_10 : decode method_2_code 10 = .ok (.ireturn, 1) := by decide +kernel
theorem ef_rm_pick (m : MethodId) (x0 : Int32) : entryFrame m #[(.int x0)] 2 = mkF m 0 #[.val (.int x0), .unset] [] := by first | (simp [entryFrame, mkF, argsToLocals, Value.category]; done) | rfl
abbrev Q_rm_pick (Z : State) (i1 : Int32) (G1 : Int32) (G3 : Value) (h0 : Heap) (n0 : Nat) : Option Value → Heap → List Loc → Prop := fun v h L => ∃ (rv : Int32), v = some (.int rv) ∧ Fr n0 L ∧ Keep h0 h []
set_option maxRecDepth 65536 in
set_option maxHeartbeats 40000000 in
theorem rm_pick (l : Launch) (Z : State) (a0 : Array Value) (hw : ∀ d ∈ tables_1, d.before a0 Z = true) (i1 : Int32) (G1 : Int32) (G3 : Value) (h0 : Heap) (n0 : Nat) (Z0 : n0 ≤ h0.size) (P0 : Old Z n0 h0) (O2 : Sta Z Z.heap "java/lang/String" "COMPACT_STRINGS" "Z" (.int G1)) (hG1 : ¬ G1.toInt = 0) (O4 : Sta Z Z.heap "jdk/internal/util/Preconditions" "SIOOBE_FORMATTER" "Ljava/util/function/BiFunction;" G3) (rG3 : G3.isRef = true) :
    ConW l Z consts_1 (⟨"com/example/tweak_tags/tweaktags/GeneralEntitiesPredefinedPinLaw", "pick", "(I)B"⟩ : MethodName) method_2_code 2 (some .byte) ({ frames := 4, cells := 2, slots := 44, locals := 53 } : Room) #[(.int i1)] h0 (Q_rm_pick Z i1 G1 G3 h0 n0) := by
  refine meetW (EL := consts_1) (y := (⟨"com/example/tweak_tags/tweaktags/GeneralEntitiesPredefinedPinLaw", "pick", "(I)B"⟩ : MethodName)) (Q := Q_rm_pick Z i1 G1 G3 h0 n0) (plainFor_of_name pn_com_example_tweak_tags_tweaktags_GeneralEntitiesPredefinedPinLaw) (fun m => ef_rm_pick m i1) ?_
  intro p e sA s m below meth c T0 hx hby hml hZ hown hnm hret hlk X0 e0 K0w H0w
  have N0 := Fr.nil n0
  have hEL := own_EW hw
  have wS := own_wS hw
  have K0 := Keep.refl h0 []
  refine gw_iloadN X0 hx hby d1_0 (pc' := 1) rfl rfl ?_
  refine gw_sipush X0 hx hby d1_1 (pc' := 4) rfl (z := (256 : Int32)) rfl ?_
  refine gw_iand X0 hx hby d1_4 (pc' := 5) rfl rfl ?_
  by_cases hc5 : (i1 &&& (256 : Int32)).toInt = (0 : Int)
  · refine gw_ifYes X0 hx hby d1_5 (pc' := 11) (teq (show (i1 &&& (256 : Int32)) = (0 : Int32) from Int32.toInt_inj.mp hc5)).1 (by decide) (by decide) ?_
    refine GoW.ldc X0 hx hZ hown (wi hw 5 rfl) wS e0 K0w hEL (List.mem_of_getElem? (i := 0) rfl) H0w (z := (10 : Int32)) tl_7 (by decide) rfl (hb hby d1_11) (pc' := 13) rfl (n := 40) (by decide) (by decide) (by decide) (by decide) ?_
    intro s T1 h1 a1 d1 k1 X1 hZ hown e1 E1 Lk1 Ch1 Sf1 Ns1 A1 C1 F1 R1
    have V1 : ArF Z h1 d1 .byte 10 (fun i => .int ((own_lo (own_l [(108 : Int32), (103 : Int32), (116 : Int32), (97 : Int32), (109 : Int32), (112 : Int32), (111 : Int32), (113 : Int32), (117 : Int32), (115 : Int32)])) i)) := (arF_of_arv R1).congr (fun i hi => (by decide +kernel : ∀ i, i < 10 → Value.int ((own_lo (own_l [(108 : Int32), (103 : Int32), (116 : Int32), (97 : Int32), (109 : Int32), (112 : Int32), (111 : Int32), (113 : Int32), (117 : Int32), (115 : Int32)])) i) = [Value.int 108, Value.int 103, Value.int 116, Value.int 97, Value.int 109, Value.int 112, Value.int 111, Value.int 113, Value.int 117, Value.int 115].getD i (.int 0)) i hi)
    refine gw_astoreN X1 hx hby d1_13 (pc' := 14) rfl rfl (L' := #[.val (.int i1), .val (.ref a1)]) rfl ?_
    refine gw_aloadN X1 hx hby d1_14 (pc' := 15) rfl rfl rfl ?_
    refine gw_iloadN X1 hx hby d1_15 (pc' := 16) rfl rfl ?_
    refine gw_bipush X1 hx hby d1_16 (pc' := 18) rfl (z := (9 : Int32)) rfl ?_
    refine gw_iushr X1 hx hby d1_18 (pc' := 19) rfl rfl ?_
    generalize hu2 : ((i1.toUInt32 >>> ((9 : Int32) &&& 31).toUInt32).toInt32) = u2
    refine gw_bipush X1 hx hby d1_19 (pc' := 21) rfl (z := (15 : Int32)) rfl ?_
    refine gw_iand X1 hx hby d1_21 (pc' := 22) rfl rfl ?_
    refine gw_bipush X1 hx hby d1_22 (pc' := 24) rfl (z := (10 : Int32)) rfl ?_
    refine gw_irem X1 hx hby d1_24 (pc' := 25) rfl (by decide) rfl ?_
    obtain ⟨kx, hkx, hkx9⟩ : ∃ n : Nat, ((u2 &&& (15 : Int32)) % (10 : Int32)).toInt = (n : Int) ∧ n < 10 := ⟨((u2 &&& (15 : Int32)) % (10 : Int32)).toInt.toNat, by have : (0 ≤ (u2 &&& (15 : Int32)).toInt → ((u2 &&& (15 : Int32)) % (10 : Int32)).toInt = (u2 &&& (15 : Int32)).toInt % 10) ∧ ((u2 &&& (15 : Int32)).toInt < 0 → ((u2 &&& (15 : Int32)) % (10 : Int32)).toInt = -((-(u2 &&& (15 : Int32)).toInt) % 10)) := c_irem _ _ 10 rfl; have : -2147483648 ≤ ((u2 &&& (15 : Int32)) % (10 : Int32)).toInt ∧ ((u2 &&& (15 : Int32)) % (10 : Int32)).toInt < 2147483648 := rng32 _; have : (u2 &&& (15 : Int32)).toInt = u2.toInt % 16 := c_mask _ _ 4 (by decide) (by decide); have : -2147483648 ≤ (u2 &&& (15 : Int32)).toInt ∧ (u2 &&& (15 : Int32)).toInt < 2147483648 := rng32 _; have : -2147483648 ≤ u2.toInt ∧ u2.toInt < 2147483648 := rng32 _; omega, by have : (0 ≤ (u2 &&& (15 : Int32)).toInt → ((u2 &&& (15 : Int32)) % (10 : Int32)).toInt = (u2 &&& (15 : Int32)).toInt % 10) ∧ ((u2 &&& (15 : Int32)).toInt < 0 → ((u2 &&& (15 : Int32)) % (10 : Int32)).toInt = -((-(u2 &&& (15 : Int32)).toInt) % 10)) := c_irem _ _ 10 rfl; have : -2147483648 ≤ ((u2 &&& (15 : Int32)) % (10 : Int32)).toInt ∧ ((u2 &&& (15 : Int32)) % (10 : Int32)).toInt < 2147483648 := rng32 _; have : (u2 &&& (15 : Int32)).toInt = u2.toInt % 16 := c_mask _ _ 4 (by decide) (by decide); have : -2147483648 ≤ (u2 &&& (15 : Int32)).toInt ∧ (u2 &&& (15 : Int32)).toInt < 2147483648 := rng32 _; have : -2147483648 ≤ u2.toInt ∧ u2.toInt < 2147483648 := rng32 _; omega⟩
    have f4 := P0.ext E1
    refine GoW.callV X1 hx hZ hown (wi hw 12 rfl) (wi hw 13 rfl) (notFace_of_selects (args := #[]) (mvT hZ (wi hw 15 rfl))) (wi hw 15 rfl) (wi hw 14 rfl) (wi hw 6 rfl) (wi hw 16 rfl) (by decide) e1 (a := a1) (argsL := [(.int ((u2 &&& (15 : Int32)) % (10 : Int32)))]) (rest := []) (W := 0) A1 (rm_ca l Z a0 hw a1 ((u2 &&& (15 : Int32)) % (10 : Int32)) d1 10 (own_l [(108 : Int32), (103 : Int32), (116 : Int32), (97 : Int32), (109 : Int32), (112 : Int32), (111 : Int32), (113 : Int32), (117 : Int32), (115 : Int32)]) kx G1 G3 h1 n0 (Nat.le_trans Z0 E1.1) A1 F1 C1 V1 f4 hkx (by omega) (by omega) (by omega) (by decide) O2 hG1 O4 rG3) (hb hby d1_25) (by rw [hml]; rfl) rfl pd6 rfl rfl (by decide) (by decide) (by decide) (by decide) ?_
    intro v3 T3 L3 X3 hQ3
    obtain ⟨rfl, Nq3, hh3⟩ := hQ3
    have N3 := Fr.app N0 Nq3
    refine GoW.push (pc' := 28) rfl ?_
    refine gw_i2b X3 hx hby d1_28 (pc' := 29) rfl rfl ?_
    refine GoW.retZ (a0 := a0) X3 hx hlk hret (by simp) (hb hby d1_29) (by decide) (by decide) ?_
    rw [hh3]
    exact ⟨_, rfl, Lk1, hZ, hEL, Ch1, (nar .byte (((own_l [(108 : Int32), (103 : Int32), (116 : Int32), (97 : Int32), (109 : Int32), (112 : Int32), (111 : Int32), (113 : Int32), (117 : Int32), (115 : Int32)]) kx).toInt8.toInt32)), rfl, N3, (K0.ext E1)⟩
  · refine gw_ifNo X0 hx hby d1_5 (pc' := 8) (feq (show ¬ ((i1 &&& (256 : Int32)) = (0 : Int32)) from fun q => hc5 (congrArg Int32.toInt q))).1 rfl ?_
    refine gw_iloadN X0 hx hby d1_8 (pc' := 9) rfl rfl ?_
    refine gw_i2b X0 hx hby d1_9 (pc' := 10) rfl rfl ?_
    refine GoW.retZ (a0 := a0) X0 hx hlk hret (by simp) (hb hby d1_10) (by decide) (by decide) ?_
    rw [e0]
    exact ⟨_, rfl, K0w, hZ, hEL, H0w, (nar .byte (i1.toInt8.toInt32)), rfl, N0, K0⟩
theorem pd7 : parseMethodDescriptor "(I)B" = some ⟨[.int], some .byte⟩ := by decide +kernel
theorem tl_25 : (∀ c ∈ "lt".toList, c.toNat < 256) ∧ "lt".toList.map (fun c => Value.int (Jvm.Lit.byteI c.toNat.toUInt16)) = [.int 108, .int 116] := ⟨by decide +kernel, by decide +kernel⟩
theorem pd8 : parseMethodDescriptor "([BIILjava/lang/String;)Z" = some ⟨[(.array .byte), .int, .int, (.object "java/lang/String")], some .boolean⟩ := by decide +kernel
theorem tl_31 : (∀ c ∈ "gt".toList, c.toNat < 256) ∧ "gt".toList.map (fun c => Value.int (Jvm.Lit.byteI c.toNat.toUInt16)) = [.int 103, .int 116] := ⟨by decide +kernel, by decide +kernel⟩
theorem tl_33 : (∀ c ∈ "amp".toList, c.toNat < 256) ∧ "amp".toList.map (fun c => Value.int (Jvm.Lit.byteI c.toNat.toUInt16)) = [.int 97, .int 109, .int 112] := ⟨by decide +kernel, by decide +kernel⟩
theorem tl_35 : (∀ c ∈ "apos".toList, c.toNat < 256) ∧ "apos".toList.map (fun c => Value.int (Jvm.Lit.byteI c.toNat.toUInt16)) = [.int 97, .int 112, .int 111, .int 115] := ⟨by decide +kernel, by decide +kernel⟩
theorem tl_37 : (∀ c ∈ "quot".toList, c.toNat < 256) ∧ "quot".toList.map (fun c => Value.int (Jvm.Lit.byteI c.toNat.toUInt16)) = [.int 113, .int 117, .int 111, .int 116] := ⟨by decide +kernel, by decide +kernel⟩
theorem pd9 : parseMethodDescriptor "([BII)I" = some ⟨[(.array .byte), .int, .int], some .int⟩ := by decide +kernel
theorem ef_rm0 (m : MethodId) (x0 : Int32) (x1 : Int32) (x2 : Int32) (x3 : Int32) (x4 : Int32) (x5 : Int32) : entryFrame m #[(.int x0), (.int x1), (.int x2), (.int x3), (.int x4), (.int x5)] maxLocals = mkF m 0 #[.val (.int x0), .val (.int x1), .val (.int x2), .val (.int x3), .val (.int x4), .val (.int x5), .unset, .unset, .unset, .unset, .unset] [] := by first | (simp [entryFrame, mkF, argsToLocals, Value.category, maxLocals]; done) | rfl
set_option maxRecDepth 65536 in
set_option maxHeartbeats 40000000 in
theorem rm0 (l : Launch) (Z : State) (a0 : Array Value) (hw : ∀ d ∈ tables_1, d.before a0 Z = true) (ws : List Jvm.Cond) (p1 p2 p3 p4 p5 p6 : Int32) (G1 : Int32) (G3 : Value) (h0 : Heap) (n0 : Nat) (Z0 : n0 ≤ h0.size) (O2 : Sta Z Z.heap "java/lang/String" "COMPACT_STRINGS" "Z" (.int G1)) (hG1 : ¬ G1.toInt = 0) (O4 : Sta Z Z.heap "jdk/internal/util/Preconditions" "SIOOBE_FORMATTER" "Ljava/util/function/BiFunction;" G3) (rG3 : G3.isRef = true) (X00 : Old Z n0 h0) :
    MetFree l x (head1 (Jvm.Cond.code x code maxLocals ret :: ws) room_1) (fun a U => a = #[(.int p1), (.int p2), (.int p3), (.int p4), (.int p5), (.int p6)] ∧ Z.Warmed39 U.vm ∧ U.heap = h0 ∧ CHv Z consts_1 U.vm h0) (fun _ _ _ _ _ => True) (fun _ U o U' => ∃ v L, o = .returned v ∧ (fun v h L => v = some (.int 1) ∧ Fr n0 L) v U'.heap L ∧ CHr Z consts_1 U.vm U.heap U'.vm U'.heap ∧ ReturnedEndW U o U' L room_1.cells room_1.slots) := by
  refine meetW (EL := consts_1) (y := x) (Q := fun v h L => v = some (.int 1) ∧ Fr n0 L) (plainFor_of_name pn_com_example_tweak_tags_tweaktags_GeneralEntitiesPredefinedPinLaw) (fun m => ef_rm0 m p1 p2 p3 p4 p5 p6) ?_
  intro p e sA s m below meth c T0 hx hby hml hZ hown hnm hret hlk X0 e0 K0w H0w
  have N0 := Fr.nil n0
  have hml : c.maxLocals = 11 := hml
  have hEL := own_EW hw
  have wS := own_wS hw
  refine gw_bipush X0 hx hby at_0 (pc' := 2) rfl (z := (6 : Int32)) rfl ?_
  refine GoW.newarr X0 hx hZ (n := 6) (cap := 6) (ty := .byte) rfl (wi hw 0 rfl) e0 (by decide) rfl (by decide) (by decide) (by decide) (by decide) (hb hby at_2) (pc' := 4) rfl ?_
  intro T1 h1 b1 X1 e1 E1 hb1 V1
  have Lkw2 := Lk.mono K0w E1.1
  have Chw2 := H0w.trans (CHr.ext E1 H0w.1)
  have Sn3 := Safe.ext E1 H0w.1 (Safe.new (Nat.le_of_eq hb1.symm))
  have g4 : n0 ≤ b1 := by rw [hb1]; exact Z0
  have V5 : ArF Z h1 b1 .byte 6 (fun i => .int ((fun _ => (0 : Int32)) i)) := V1
  refine gw_astore X1 hx hby at_4 (pc' := 6) rfl rfl (L' := #[.val (.int p1), .val (.int p2), .val (.int p3), .val (.int p4), .val (.int p5), .val (.int p6), .val (.ref b1), .unset, .unset, .unset, .unset]) rfl ?_
  refine gw_aload X1 hx hby at_6 (pc' := 8) rfl rfl rfl ?_
  refine gw_iconst X1 hx hby at_8 (pc' := 9) rfl (z := (0 : Int32)) rfl ?_
  refine gw_iloadN X1 hx hby at_9 (pc' := 10) rfl rfl ?_
  have f7 := X00.ext E1
  refine GoW.callSW X1 hx hZ hown (wi hw 1 rfl) (wi hw 2 rfl) (wi hw 3 rfl) (wi hw 4 rfl) (by decide) e1 Lkw2 hEL Chw2 (argsL := [(.int p1)]) (rest := [(.int (0 : Int32)), (.ref b1)]) (W := 2) (rm_pick l Z a0 hw p1 G1 G3 h1 n0 (Nat.le_trans Z0 E1.1) f7 O2 hG1 O4 rG3) (hb hby at_10) (by rw [hml]; rfl) rfl pd7 rfl rfl (by decide) (by decide) (by decide) (by decide) ?_
  intro v6 s T6 L6 X6 hZ hown Lk6 Ch6 Sf6 hQ6
  obtain ⟨h6, e6⟩ : ∃ z, T6.heap = z := ⟨_, rfl⟩
  rw [e6] at hQ6
  obtain ⟨rv_6, rfl, Nq6, Kq6⟩ := hQ6
  have N6 := Fr.app N0 Nq6
  rw [e6] at Lk6 Ch6 Sf6
  have Sg6_0 := Sf6 b1 V5.lt Sn3
  refine GoW.push (pc' := 13) rfl ?_
  have f8 := V5.keep Kq6 nin0
  refine GoW.bastore X6 hx hZ e6 f8 (k := 0) rfl (by decide) (hb hby at_13) (pc' := 14) rfl ?_
  intro T9 h9 X9 e9 W9 V9
  have Lkw10 := Lk.mono Lk6 (Nat.le_of_eq (Wr.size W9).symm)
  have Chw10 := Ch6.trans (CHr.wr W9 Sg6_0 Ch6.1)
  have Sfw10_0 := Safe.wr W9 Sg6_0 Ch6.1 Sg6_0
  refine gw_aload X9 hx hby at_14 (pc' := 16) rfl rfl rfl ?_
  refine gw_iconst X9 hx hby at_16 (pc' := 17) rfl (z := (1 : Int32)) rfl ?_
  refine gw_iloadN X9 hx hby at_17 (pc' := 18) rfl rfl ?_
  have f12 := ((f7.keep Kq6 all0).wr W9 g4)
  refine GoW.callSW X9 hx hZ hown (wi hw 1 rfl) (wi hw 2 rfl) (wi hw 3 rfl) (wi hw 4 rfl) (by decide) e9 Lkw10 hEL Chw10 (argsL := [(.int p2)]) (rest := [(.int (1 : Int32)), (.ref b1)]) (W := 2) (rm_pick l Z a0 hw p2 G1 G3 h9 n0 (Nat.le_trans (Nat.le_trans (Nat.le_trans Z0 E1.1) Kq6.1) (Nat.le_of_eq (Wr.size W9).symm)) f12 O2 hG1 O4 rG3) (hb hby at_18) (by rw [hml]; rfl) rfl pd7 rfl rfl (by decide) (by decide) (by decide) (by decide) ?_
  intro v11 s T11 L11 X11 hZ hown Lk11 Ch11 Sf11 hQ11
  obtain ⟨h11, e11⟩ : ∃ z, T11.heap = z := ⟨_, rfl⟩
  rw [e11] at hQ11
  obtain ⟨rv_11, rfl, Nq11, Kq11⟩ := hQ11
  have N11 := Fr.app (Fr.snoc X9 N6 g4) Nq11
  rw [e11] at Lk11 Ch11 Sf11
  have Sg11_0 := Sf11 b1 V9.lt Sfw10_0
  refine GoW.push (pc' := 21) rfl ?_
  have f13 := V9.keep Kq11 nin0
  refine GoW.bastore X11 hx hZ e11 f13 (k := 1) rfl (by decide) (hb hby at_21) (pc' := 22) rfl ?_
  intro T14 h14 X14 e14 W14 V14
  have Lkw15 := Lk.mono Lk11 (Nat.le_of_eq (Wr.size W14).symm)
  have Chw15 := Ch11.trans (CHr.wr W14 Sg11_0 Ch11.1)
  have Sfw15_0 := Safe.wr W14 Sg11_0 Ch11.1 Sg11_0
  have z16 : n0 ≤ h14.size := (Nat.le_trans (Nat.le_trans (Nat.le_trans (Nat.le_trans (Nat.le_trans Z0 E1.1) Kq6.1) (Nat.le_of_eq (Wr.size W9).symm)) Kq11.1) (Nat.le_of_eq (Wr.size W14).symm))
  refine gw_aload X14 hx hby at_22 (pc' := 24) rfl rfl rfl ?_
  refine gw_iconst X14 hx hby at_24 (pc' := 25) rfl (z := (2 : Int32)) rfl ?_
  refine gw_iloadN X14 hx hby at_25 (pc' := 26) rfl rfl ?_
  have f18 := ((f12.keep Kq11 all0).wr W14 g4)
  refine GoW.callSW X14 hx hZ hown (wi hw 1 rfl) (wi hw 2 rfl) (wi hw 3 rfl) (wi hw 4 rfl) (by decide) e14 Lkw15 hEL Chw15 (argsL := [(.int p3)]) (rest := [(.int (2 : Int32)), (.ref b1)]) (W := 2) (rm_pick l Z a0 hw p3 G1 G3 h14 n0 z16 f18 O2 hG1 O4 rG3) (hb hby at_26) (by rw [hml]; rfl) rfl pd7 rfl rfl (by decide) (by decide) (by decide) (by decide) ?_
  intro v17 s T17 L17 X17 hZ hown Lk17 Ch17 Sf17 hQ17
  obtain ⟨h17, e17⟩ : ∃ z, T17.heap = z := ⟨_, rfl⟩
  rw [e17] at hQ17
  obtain ⟨rv_17, rfl, Nq17, Kq17⟩ := hQ17
  have N17 := Fr.app (Fr.snoc X14 N11 g4) Nq17
  rw [e17] at Lk17 Ch17 Sf17
  have Sg17_0 := Sf17 b1 V14.lt Sfw15_0
  refine GoW.push (pc' := 29) rfl ?_
  have f19 := V14.keep Kq17 nin0
  refine GoW.bastore X17 hx hZ e17 f19 (k := 2) rfl (by decide) (hb hby at_29) (pc' := 30) rfl ?_
  intro T20 h20 X20 e20 W20 V20
  have Lkw21 := Lk.mono Lk17 (Nat.le_of_eq (Wr.size W20).symm)
  have Chw21 := Ch17.trans (CHr.wr W20 Sg17_0 Ch17.1)
  have Sfw21_0 := Safe.wr W20 Sg17_0 Ch17.1 Sg17_0
  refine gw_aload X20 hx hby at_30 (pc' := 32) rfl rfl rfl ?_
  refine gw_iconst X20 hx hby at_32 (pc' := 33) rfl (z := (3 : Int32)) rfl ?_
  refine gw_iloadN X20 hx hby at_33 (pc' := 34) rfl rfl ?_
  have f23 := ((f18.keep Kq17 all0).wr W20 g4)
  refine GoW.callSW X20 hx hZ hown (wi hw 1 rfl) (wi hw 2 rfl) (wi hw 3 rfl) (wi hw 4 rfl) (by decide) e20 Lkw21 hEL Chw21 (argsL := [(.int p4)]) (rest := [(.int (3 : Int32)), (.ref b1)]) (W := 2) (rm_pick l Z a0 hw p4 G1 G3 h20 n0 (Nat.le_trans (Nat.le_trans z16 Kq17.1) (Nat.le_of_eq (Wr.size W20).symm)) f23 O2 hG1 O4 rG3) (hb hby at_34) (by rw [hml]; rfl) rfl pd7 rfl rfl (by decide) (by decide) (by decide) (by decide) ?_
  intro v22 s T22 L22 X22 hZ hown Lk22 Ch22 Sf22 hQ22
  obtain ⟨h22, e22⟩ : ∃ z, T22.heap = z := ⟨_, rfl⟩
  rw [e22] at hQ22
  obtain ⟨rv_22, rfl, Nq22, Kq22⟩ := hQ22
  have N22 := Fr.app (Fr.snoc X20 N17 g4) Nq22
  rw [e22] at Lk22 Ch22 Sf22
  have Sg22_0 := Sf22 b1 V20.lt Sfw21_0
  refine GoW.push (pc' := 37) rfl ?_
  have f24 := V20.keep Kq22 nin0
  refine GoW.bastore X22 hx hZ e22 f24 (k := 3) rfl (by decide) (hb hby at_37) (pc' := 38) rfl ?_
  intro T25 h25 X25 e25 W25 V25
  have Lkw26 := Lk.mono Lk22 (Nat.le_of_eq (Wr.size W25).symm)
  have Chw26 := Ch22.trans (CHr.wr W25 Sg22_0 Ch22.1)
  have Sfw26_0 := Safe.wr W25 Sg22_0 Ch22.1 Sg22_0
  refine gw_aload X25 hx hby at_38 (pc' := 40) rfl rfl rfl ?_
  refine gw_iconst X25 hx hby at_40 (pc' := 41) rfl (z := (4 : Int32)) rfl ?_
  refine gw_iload X25 hx hby at_41 (pc' := 43) rfl rfl ?_
  have f28 := ((f23.keep Kq22 all0).wr W25 g4)
  refine GoW.callSW X25 hx hZ hown (wi hw 1 rfl) (wi hw 2 rfl) (wi hw 3 rfl) (wi hw 4 rfl) (by decide) e25 Lkw26 hEL Chw26 (argsL := [(.int p5)]) (rest := [(.int (4 : Int32)), (.ref b1)]) (W := 2) (rm_pick l Z a0 hw p5 G1 G3 h25 n0 (Nat.le_trans (Nat.le_trans (Nat.le_trans (Nat.le_trans z16 Kq17.1) (Nat.le_of_eq (Wr.size W20).symm)) Kq22.1) (Nat.le_of_eq (Wr.size W25).symm)) f28 O2 hG1 O4 rG3) (hb hby at_43) (by rw [hml]; rfl) rfl pd7 rfl rfl (by decide) (by decide) (by decide) (by decide) ?_
  intro v27 s T27 L27 X27 hZ hown Lk27 Ch27 Sf27 hQ27
  obtain ⟨h27, e27⟩ : ∃ z, T27.heap = z := ⟨_, rfl⟩
  rw [e27] at hQ27
  obtain ⟨rv_27, rfl, Nq27, Kq27⟩ := hQ27
  have N27 := Fr.app (Fr.snoc X25 N22 g4) Nq27
  have z29 : n0 ≤ h27.size := (Nat.le_trans (Nat.le_trans (Nat.le_trans (Nat.le_trans (Nat.le_trans z16 Kq17.1) (Nat.le_of_eq (Wr.size W20).symm)) Kq22.1) (Nat.le_of_eq (Wr.size W25).symm)) Kq27.1)
  rw [e27] at Lk27 Ch27 Sf27
  have Sg27_0 := Sf27 b1 V25.lt Sfw26_0
  refine GoW.push (pc' := 46) rfl ?_
  have f30 := V25.keep Kq27 nin0
  refine GoW.bastore X27 hx hZ e27 f30 (k := 4) rfl (by decide) (hb hby at_46) (pc' := 47) rfl ?_
  intro T31 h31 X31 e31 W31 V31
  have Lkw32 := Lk.mono Lk27 (Nat.le_of_eq (Wr.size W31).symm)
  have Chw32 := Ch27.trans (CHr.wr W31 Sg27_0 Ch27.1)
  have Sfw32_0 := Safe.wr W31 Sg27_0 Ch27.1 Sg27_0
  refine gw_aload X31 hx hby at_47 (pc' := 49) rfl rfl rfl ?_
  refine gw_iconst X31 hx hby at_49 (pc' := 50) rfl (z := (5 : Int32)) rfl ?_
  refine gw_iload X31 hx hby at_50 (pc' := 52) rfl rfl ?_
  have f34 := ((f28.keep Kq27 all0).wr W31 g4)
  refine GoW.callSW X31 hx hZ hown (wi hw 1 rfl) (wi hw 2 rfl) (wi hw 3 rfl) (wi hw 4 rfl) (by decide) e31 Lkw32 hEL Chw32 (argsL := [(.int p6)]) (rest := [(.int (5 : Int32)), (.ref b1)]) (W := 2) (rm_pick l Z a0 hw p6 G1 G3 h31 n0 (Nat.le_trans z29 (Nat.le_of_eq (Wr.size W31).symm)) f34 O2 hG1 O4 rG3) (hb hby at_52) (by rw [hml]; rfl) rfl pd7 rfl rfl (by decide) (by decide) (by decide) (by decide) ?_
  intro v33 s T33 L33 X33 hZ hown Lk33 Ch33 Sf33 hQ33
  obtain ⟨h33, e33⟩ : ∃ z, T33.heap = z := ⟨_, rfl⟩
  rw [e33] at hQ33
  obtain ⟨rv_33, rfl, Nq33, Kq33⟩ := hQ33
  have N33 := Fr.app (Fr.snoc X31 N27 g4) Nq33
  rw [e33] at Lk33 Ch33 Sf33
  have Sg33_0 := Sf33 b1 V31.lt Sfw32_0
  refine GoW.push (pc' := 55) rfl ?_
  have f35 := V31.keep Kq33 nin0
  refine GoW.bastore X33 hx hZ e33 f35 (k := 5) rfl (by decide) (hb hby at_55) (pc' := 56) rfl ?_
  intro T36 h36 X36 e36 W36 V36
  have Lkw37 := Lk.mono Lk33 (Nat.le_of_eq (Wr.size W36).symm)
  have Chw37 := Ch33.trans (CHr.wr W36 Sg33_0 Ch33.1)
  have Sfw37_0 := Safe.wr W36 Sg33_0 Ch33.1 Sg33_0
  obtain ⟨g6, V6⟩ : ∃ g : Nat → Int32, ArF Z h36 b1 .byte 6 (fun i => .int (g i)) := ⟨_, V36⟩
  refine gw_iloadN X36 hx hby at_56 (pc' := 57) rfl rfl ?_
  refine gw_bipush X36 hx hby at_57 (pc' := 59) rfl (z := (16 : Int32)) rfl ?_
  refine gw_iushr X36 hx hby at_59 (pc' := 60) rfl rfl ?_
  generalize hu38 : ((p1.toUInt32 >>> ((16 : Int32) &&& 31).toUInt32).toInt32) = u38
  refine gw_iconst X36 hx hby at_60 (pc' := 61) rfl (z := (1 : Int32)) rfl ?_
  refine gw_iand X36 hx hby at_61 (pc' := 62) rfl rfl ?_
  generalize hv39 : (u38 &&& (1 : Int32)) = v39
  refine gw_istore X36 hx hby at_62 (pc' := 64) rfl (L' := #[.val (.int p1), .val (.int p2), .val (.int p3), .val (.int p4), .val (.int p5), .val (.int p6), .val (.ref b1), .val (.int v39), .unset, .unset, .unset]) rfl ?_
  have hqsn : 0 ≤ v39.toInt ∧ v39.toInt ≤ 1 := by
    rw [← hv39]
    have : (u38 &&& (1 : Int32)).toInt = u38.toInt % 2 := c_mask _ _ 1 (by decide) (by decide)
    have : -2147483648 ≤ (u38 &&& (1 : Int32)).toInt ∧ (u38 &&& (1 : Int32)).toInt < 2147483648 := rng32 _
    have : -2147483648 ≤ u38.toInt ∧ u38.toInt < 2147483648 := rng32 _
    omega
  obtain ⟨sn, hsn⟩ : ∃ n : Nat, v39.toInt = (n : Int) := ⟨v39.toInt.toNat, by omega⟩
  clear hv39
  refine gw_iloadN X36 hx hby at_64 (pc' := 65) rfl rfl ?_
  refine gw_bipush X36 hx hby at_65 (pc' := 67) rfl (z := (16 : Int32)) rfl ?_
  refine gw_iushr X36 hx hby at_67 (pc' := 68) rfl rfl ?_
  generalize hu40 : ((p2.toUInt32 >>> ((16 : Int32) &&& 31).toUInt32).toInt32) = u40
  refine gw_sipush X36 hx hby at_68 (pc' := 71) rfl (z := (32767 : Int32)) rfl ?_
  refine gw_iand X36 hx hby at_71 (pc' := 72) rfl rfl ?_
  refine gw_bipush X36 hx hby at_72 (pc' := 74) rfl (z := (6 : Int32)) rfl ?_
  refine gw_irem X36 hx hby at_74 (pc' := 75) rfl (by decide) rfl ?_
  generalize hv41 : ((u40 &&& (32767 : Int32)) % (6 : Int32)) = v41
  refine gw_istore X36 hx hby at_75 (pc' := 77) rfl (L' := #[.val (.int p1), .val (.int p2), .val (.int p3), .val (.int p4), .val (.int p5), .val (.int p6), .val (.ref b1), .val (.int v39), .val (.int v41), .unset, .unset]) rfl ?_
  have hqln : 0 ≤ v41.toInt ∧ v41.toInt ≤ 5 := by
    rw [← hv41]
    have : (0 ≤ (u40 &&& (32767 : Int32)).toInt → ((u40 &&& (32767 : Int32)) % (6 : Int32)).toInt = (u40 &&& (32767 : Int32)).toInt % 6) ∧ ((u40 &&& (32767 : Int32)).toInt < 0 → ((u40 &&& (32767 : Int32)) % (6 : Int32)).toInt = -((-(u40 &&& (32767 : Int32)).toInt) % 6)) := c_irem _ _ 6 rfl
    have : -2147483648 ≤ ((u40 &&& (32767 : Int32)) % (6 : Int32)).toInt ∧ ((u40 &&& (32767 : Int32)) % (6 : Int32)).toInt < 2147483648 := rng32 _
    have : (u40 &&& (32767 : Int32)).toInt = u40.toInt % 32768 := c_mask _ _ 15 (by decide) (by decide)
    have : -2147483648 ≤ (u40 &&& (32767 : Int32)).toInt ∧ (u40 &&& (32767 : Int32)).toInt < 2147483648 := rng32 _
    have : -2147483648 ≤ u40.toInt ∧ u40.toInt < 2147483648 := rng32 _
    omega
  obtain ⟨ln, hln⟩ : ∃ n : Nat, v41.toInt = (n : Int) := ⟨v41.toInt.toNat, by omega⟩
  clear hv41
  refine gw_aload X36 hx hby at_77 (pc' := 79) rfl rfl rfl ?_
  refine gw_iload X36 hx hby at_79 (pc' := 81) rfl rfl ?_
  refine gw_iload X36 hx hby at_81 (pc' := 83) rfl rfl ?_
  refine GoW.ldc X36 hx hZ hown (wi hw 37 rfl) wS e36 Lkw37 hEL (List.mem_of_getElem? (i := 1) rfl) Chw37 (z := (2 : Int32)) tl_25 (by decide) rfl (hb hby at_83) (pc' := 85) rfl (n := 8) (by decide) (by decide) (by decide) (by decide) ?_
  intro s T42 h42 a42 d42 k42 X42 hZ hown e42 E42 Lk42 Ch42 Sf42 Ns42 A42 C42 F42 R42
  have Sg42_0 := Sf42 b1 V6.lt Sfw37_0
  have na42_0 := (Ns42 b1 Sg42_0).1
  have nd42_0 := (Ns42 b1 Sg42_0).2
  have V42 : ArF Z h42 d42 .byte 2 (fun i => .int ((own_lo (own_l [(108 : Int32), (116 : Int32)])) i)) := (arF_of_arv R42).congr (fun i hi => (by decide +kernel : ∀ i, i < 2 → Value.int ((own_lo (own_l [(108 : Int32), (116 : Int32)])) i) = [Value.int 108, Value.int 116].getD i (.int 0)) i hi)
  have f44 := V6.ext E42
  have f45 := (((f34.keep Kq33 all0).wr W36 g4).ext E42)
  refine GoW.callS X42 hx hZ hown (wi hw 38 rfl) (wi hw 39 rfl) (wi hw 3 rfl) (wi hw 40 rfl) (by decide) e42 (argsL := [(.ref b1), (.int v39), (.int v41), (.ref a42)]) (rest := []) (W := 0) (rm_is l Z a0 hw b1 v39 v41 a42 g6 sn ln d42 2 (own_l [(108 : Int32), (116 : Int32)]) G1 G3 h42 n0 (Nat.le_trans (Nat.le_trans (Nat.le_trans (Nat.le_trans z29 (Nat.le_of_eq (Wr.size W31).symm)) Kq33.1) (Nat.le_of_eq (Wr.size W36).symm)) E42.1) f44 A42 F42 C42 V42 f45 hsn hln (by omega) (by omega) (by omega) (by omega) (by omega) (by decide) O2 hG1 O4 rG3) (hb hby at_85) (by rw [hml]; rfl) rfl pd8 rfl rfl (by decide) (by decide) (by decide) (by decide) ?_
  intro v43 T43 L43 X43 hQ43
  obtain ⟨rfl, Nq43, hh43⟩ := hQ43
  have N43 := Fr.app (Fr.snoc X36 N33 g4) Nq43
  refine GoW.push (pc' := 88) rfl ?_
  by_cases hc88 : (own_is g6 sn ln 2 (own_l [(108 : Int32), (116 : Int32)])).toInt = (0 : Int)
  · refine gw_ifYes X43 hx hby at_88 (pc' := 98) (teq (show (own_is g6 sn ln 2 (own_l [(108 : Int32), (116 : Int32)])) = (0 : Int32) from Int32.toInt_inj.mp hc88)).1 (by decide) (by decide) ?_
    refine gw_aload X43 hx hby at_98 (pc' := 100) rfl rfl rfl ?_
    refine gw_iload X43 hx hby at_100 (pc' := 102) rfl rfl ?_
    refine gw_iload X43 hx hby at_102 (pc' := 104) rfl rfl ?_
    refine GoW.ldc X43 hx hZ hown (wi hw 51 rfl) wS hh43 Lk42 hEL (List.mem_of_getElem? (i := 2) rfl) Ch42 (z := (2 : Int32)) tl_31 (by decide) rfl (hb hby at_104) (pc' := 106) rfl (n := 8) (by decide) (by decide) (by decide) (by decide) ?_
    intro s T46 h46 a46 d46 k46 X46 hZ hown e46 E46 Lk46 Ch46 Sf46 Ns46 A46 C46 F46 R46
    have Sg46_0 := Sf46 b1 f44.lt Sg42_0
    have na46_0 := (Ns46 b1 Sg46_0).1
    have nd46_0 := (Ns46 b1 Sg46_0).2
    have V46 : ArF Z h46 d46 .byte 2 (fun i => .int ((own_lo (own_l [(103 : Int32), (116 : Int32)])) i)) := (arF_of_arv R46).congr (fun i hi => (by decide +kernel : ∀ i, i < 2 → Value.int ((own_lo (own_l [(103 : Int32), (116 : Int32)])) i) = [Value.int 103, Value.int 116].getD i (.int 0)) i hi)
    have z47 : n0 ≤ h46.size := (Nat.le_trans (Nat.le_trans (Nat.le_trans (Nat.le_trans (Nat.le_trans z29 (Nat.le_of_eq (Wr.size W31).symm)) Kq33.1) (Nat.le_of_eq (Wr.size W36).symm)) E42.1) E46.1)
    have f49 := f44.ext E46
    have f50 := f45.ext E46
    refine GoW.callS X46 hx hZ hown (wi hw 38 rfl) (wi hw 39 rfl) (wi hw 3 rfl) (wi hw 40 rfl) (by decide) e46 (argsL := [(.ref b1), (.int v39), (.int v41), (.ref a46)]) (rest := []) (W := 0) (rm_is l Z a0 hw b1 v39 v41 a46 g6 sn ln d46 2 (own_l [(103 : Int32), (116 : Int32)]) G1 G3 h46 n0 z47 f49 A46 F46 C46 V46 f50 hsn hln (by omega) (by omega) (by omega) (by omega) (by omega) (by decide) O2 hG1 O4 rG3) (hb hby at_106) (by rw [hml]; rfl) rfl pd8 rfl rfl (by decide) (by decide) (by decide) (by decide) ?_
    intro v48 T48 L48 X48 hQ48
    obtain ⟨rfl, Nq48, hh48⟩ := hQ48
    have N48 := Fr.app N43 Nq48
    refine GoW.push (pc' := 109) rfl ?_
    by_cases hc109 : (own_is g6 sn ln 2 (own_l [(103 : Int32), (116 : Int32)])).toInt = (0 : Int)
    · refine gw_ifYes X48 hx hby at_109 (pc' := 119) (teq (show (own_is g6 sn ln 2 (own_l [(103 : Int32), (116 : Int32)])) = (0 : Int32) from Int32.toInt_inj.mp hc109)).1 (by decide) (by decide) ?_
      refine gw_aload X48 hx hby at_119 (pc' := 121) rfl rfl rfl ?_
      refine gw_iload X48 hx hby at_121 (pc' := 123) rfl rfl ?_
      refine gw_iload X48 hx hby at_123 (pc' := 125) rfl rfl ?_
      refine GoW.ldc X48 hx hZ hown (wi hw 52 rfl) wS hh48 Lk46 hEL (List.mem_of_getElem? (i := 3) rfl) Ch46 (z := (3 : Int32)) tl_33 (by decide) rfl (hb hby at_125) (pc' := 127) rfl (n := 12) (by decide) (by decide) (by decide) (by decide) ?_
      intro s T51 h51 a51 d51 k51 X51 hZ hown e51 E51 Lk51 Ch51 Sf51 Ns51 A51 C51 F51 R51
      have Sg51_0 := Sf51 b1 f49.lt Sg46_0
      have na51_0 := (Ns51 b1 Sg51_0).1
      have nd51_0 := (Ns51 b1 Sg51_0).2
      have V51 : ArF Z h51 d51 .byte 3 (fun i => .int ((own_lo (own_l [(97 : Int32), (109 : Int32), (112 : Int32)])) i)) := (arF_of_arv R51).congr (fun i hi => (by decide +kernel : ∀ i, i < 3 → Value.int ((own_lo (own_l [(97 : Int32), (109 : Int32), (112 : Int32)])) i) = [Value.int 97, Value.int 109, Value.int 112].getD i (.int 0)) i hi)
      have f53 := f49.ext E51
      have f54 := f50.ext E51
      refine GoW.callS X51 hx hZ hown (wi hw 38 rfl) (wi hw 39 rfl) (wi hw 3 rfl) (wi hw 40 rfl) (by decide) e51 (argsL := [(.ref b1), (.int v39), (.int v41), (.ref a51)]) (rest := []) (W := 0) (rm_is l Z a0 hw b1 v39 v41 a51 g6 sn ln d51 3 (own_l [(97 : Int32), (109 : Int32), (112 : Int32)]) G1 G3 h51 n0 (Nat.le_trans z47 E51.1) f53 A51 F51 C51 V51 f54 hsn hln (by omega) (by omega) (by omega) (by omega) (by omega) (by decide) O2 hG1 O4 rG3) (hb hby at_127) (by rw [hml]; rfl) rfl pd8 rfl rfl (by decide) (by decide) (by decide) (by decide) ?_
      intro v52 T52 L52 X52 hQ52
      obtain ⟨rfl, Nq52, hh52⟩ := hQ52
      have N52 := Fr.app N48 Nq52
      refine GoW.push (pc' := 130) rfl ?_
      by_cases hc130 : (own_is g6 sn ln 3 (own_l [(97 : Int32), (109 : Int32), (112 : Int32)])).toInt = (0 : Int)
      · refine gw_ifYes X52 hx hby at_130 (pc' := 140) (teq (show (own_is g6 sn ln 3 (own_l [(97 : Int32), (109 : Int32), (112 : Int32)])) = (0 : Int32) from Int32.toInt_inj.mp hc130)).1 (by decide) (by decide) ?_
        refine gw_aload X52 hx hby at_140 (pc' := 142) rfl rfl rfl ?_
        refine gw_iload X52 hx hby at_142 (pc' := 144) rfl rfl ?_
        refine gw_iload X52 hx hby at_144 (pc' := 146) rfl rfl ?_
        refine GoW.ldc X52 hx hZ hown (wi hw 53 rfl) wS hh52 Lk51 hEL (List.mem_of_getElem? (i := 4) rfl) Ch51 (z := (4 : Int32)) tl_35 (by decide) rfl (hb hby at_146) (pc' := 148) rfl (n := 16) (by decide) (by decide) (by decide) (by decide) ?_
        intro s T55 h55 a55 d55 k55 X55 hZ hown e55 E55 Lk55 Ch55 Sf55 Ns55 A55 C55 F55 R55
        have Sg55_0 := Sf55 b1 f53.lt Sg51_0
        have na55_0 := (Ns55 b1 Sg55_0).1
        have nd55_0 := (Ns55 b1 Sg55_0).2
        have V55 : ArF Z h55 d55 .byte 4 (fun i => .int ((own_lo (own_l [(97 : Int32), (112 : Int32), (111 : Int32), (115 : Int32)])) i)) := (arF_of_arv R55).congr (fun i hi => (by decide +kernel : ∀ i, i < 4 → Value.int ((own_lo (own_l [(97 : Int32), (112 : Int32), (111 : Int32), (115 : Int32)])) i) = [Value.int 97, Value.int 112, Value.int 111, Value.int 115].getD i (.int 0)) i hi)
        have f57 := f53.ext E55
        have f58 := f54.ext E55
        refine GoW.callS X55 hx hZ hown (wi hw 38 rfl) (wi hw 39 rfl) (wi hw 3 rfl) (wi hw 40 rfl) (by decide) e55 (argsL := [(.ref b1), (.int v39), (.int v41), (.ref a55)]) (rest := []) (W := 0) (rm_is l Z a0 hw b1 v39 v41 a55 g6 sn ln d55 4 (own_l [(97 : Int32), (112 : Int32), (111 : Int32), (115 : Int32)]) G1 G3 h55 n0 (Nat.le_trans (Nat.le_trans z47 E51.1) E55.1) f57 A55 F55 C55 V55 f58 hsn hln (by omega) (by omega) (by omega) (by omega) (by omega) (by decide) O2 hG1 O4 rG3) (hb hby at_148) (by rw [hml]; rfl) rfl pd8 rfl rfl (by decide) (by decide) (by decide) (by decide) ?_
        intro v56 T56 L56 X56 hQ56
        obtain ⟨rfl, Nq56, hh56⟩ := hQ56
        have N56 := Fr.app N52 Nq56
        refine GoW.push (pc' := 151) rfl ?_
        by_cases hc151 : (own_is g6 sn ln 4 (own_l [(97 : Int32), (112 : Int32), (111 : Int32), (115 : Int32)])).toInt = (0 : Int)
        · refine gw_ifYes X56 hx hby at_151 (pc' := 161) (teq (show (own_is g6 sn ln 4 (own_l [(97 : Int32), (112 : Int32), (111 : Int32), (115 : Int32)])) = (0 : Int32) from Int32.toInt_inj.mp hc151)).1 (by decide) (by decide) ?_
          refine gw_aload X56 hx hby at_161 (pc' := 163) rfl rfl rfl ?_
          refine gw_iload X56 hx hby at_163 (pc' := 165) rfl rfl ?_
          refine gw_iload X56 hx hby at_165 (pc' := 167) rfl rfl ?_
          refine GoW.ldc X56 hx hZ hown (wi hw 54 rfl) wS hh56 Lk55 hEL (List.mem_of_getElem? (i := 5) rfl) Ch55 (z := (4 : Int32)) tl_37 (by decide) rfl (hb hby at_167) (pc' := 169) rfl (n := 16) (by decide) (by decide) (by decide) (by decide) ?_
          intro s T59 h59 a59 d59 k59 X59 hZ hown e59 E59 Lk59 Ch59 Sf59 Ns59 A59 C59 F59 R59
          have Sg59_0 := Sf59 b1 f57.lt Sg55_0
          have na59_0 := (Ns59 b1 Sg59_0).1
          have nd59_0 := (Ns59 b1 Sg59_0).2
          have V59 : ArF Z h59 d59 .byte 4 (fun i => .int ((own_lo (own_l [(113 : Int32), (117 : Int32), (111 : Int32), (116 : Int32)])) i)) := (arF_of_arv R59).congr (fun i hi => (by decide +kernel : ∀ i, i < 4 → Value.int ((own_lo (own_l [(113 : Int32), (117 : Int32), (111 : Int32), (116 : Int32)])) i) = [Value.int 113, Value.int 117, Value.int 111, Value.int 116].getD i (.int 0)) i hi)
          have f61 := f57.ext E59
          have f62 := f58.ext E59
          refine GoW.callS X59 hx hZ hown (wi hw 38 rfl) (wi hw 39 rfl) (wi hw 3 rfl) (wi hw 40 rfl) (by decide) e59 (argsL := [(.ref b1), (.int v39), (.int v41), (.ref a59)]) (rest := []) (W := 0) (rm_is l Z a0 hw b1 v39 v41 a59 g6 sn ln d59 4 (own_l [(113 : Int32), (117 : Int32), (111 : Int32), (116 : Int32)]) G1 G3 h59 n0 (Nat.le_trans (Nat.le_trans (Nat.le_trans z47 E51.1) E55.1) E59.1) f61 A59 F59 C59 V59 f62 hsn hln (by omega) (by omega) (by omega) (by omega) (by omega) (by decide) O2 hG1 O4 rG3) (hb hby at_169) (by rw [hml]; rfl) rfl pd8 rfl rfl (by decide) (by decide) (by decide) (by decide) ?_
          intro v60 T60 L60 X60 hQ60
          obtain ⟨rfl, Nq60, hh60⟩ := hQ60
          have N60 := Fr.app N56 Nq60
          refine GoW.push (pc' := 172) rfl ?_
          by_cases hc172 : (own_is g6 sn ln 4 (own_l [(113 : Int32), (117 : Int32), (111 : Int32), (116 : Int32)])).toInt = (0 : Int)
          · refine gw_ifYes X60 hx hby at_172 (pc' := 182) (teq (show (own_is g6 sn ln 4 (own_l [(113 : Int32), (117 : Int32), (111 : Int32), (116 : Int32)])) = (0 : Int32) from Int32.toInt_inj.mp hc172)).1 (by decide) (by decide) ?_
            refine gw_iconst X60 hx hby at_182 (pc' := 183) rfl (z := (-1 : Int32)) rfl ?_
            refine gw_istore X60 hx hby at_183 (pc' := 185) rfl (L' := #[.val (.int p1), .val (.int p2), .val (.int p3), .val (.int p4), .val (.int p5), .val (.int p6), .val (.ref b1), .val (.int v39), .val (.int v41), .val (.int (-1 : Int32)), .unset]) rfl ?_
            refine gw_aload X60 hx hby at_185 (pc' := 187) rfl rfl rfl ?_
            refine gw_iload X60 hx hby at_187 (pc' := 189) rfl rfl ?_
            refine gw_iload X60 hx hby at_189 (pc' := 191) rfl rfl ?_
            refine gw_iload X60 hx hby at_191 (pc' := 193) rfl rfl ?_
            refine gw_iadd X60 hx hby at_193 (pc' := 194) rfl rfl ?_
            refine GoW.callS X60 hx hZ hown (wi hw 55 rfl) (wi hw 56 rfl) (wi hw 57 rfl) (wi hw 58 rfl) (by decide) hh60 (argsL := [(.ref b1), (.int v39), (.int (v39 + v41))]) (rest := []) (W := 0) (rm_pre l Z a0 hw b1 v39 (v39 + v41) g6 sn ln h59 n0 (Nat.le_trans (Nat.le_trans (Nat.le_trans z47 E51.1) E55.1) E59.1) f61 hsn (by have : ((v39 + v41).toInt - (v39.toInt + v41.toInt)) % 4294967296 = 0 := c_iadd _ _; have : -2147483648 ≤ (v39 + v41).toInt ∧ (v39 + v41).toInt < 2147483648 := rng32 _; have : -2147483648 ≤ v39.toInt ∧ v39.toInt < 2147483648 := rng32 _; have : -2147483648 ≤ v41.toInt ∧ v41.toInt < 2147483648 := rng32 _; omega) (by omega) (by omega)) (hb hby at_194) (by rw [hml]; rfl) rfl pd9 rfl rfl (by decide) (by decide) (by decide) (by decide) ?_
            intro v63 T63 L63 X63 hQ63
            obtain ⟨rfl, Nq63, hh63⟩ := hQ63
            have N63 := Fr.app N60 Nq63
            refine GoW.push (pc' := 197) rfl ?_
            generalize hv64 : (own_pre g6 sn ln) = v64
            refine gw_istore X63 hx hby at_197 (pc' := 199) rfl (L' := #[.val (.int p1), .val (.int p2), .val (.int p3), .val (.int p4), .val (.int p5), .val (.int p6), .val (.ref b1), .val (.int v39), .val (.int v41), .val (.int (-1 : Int32)), .val (.int v64)]) rfl ?_
            refine gw_iload X63 hx hby at_199 (pc' := 201) rfl rfl ?_
            refine gw_iload X63 hx hby at_201 (pc' := 203) rfl rfl ?_
            have y0 := own_isF2 (g := g6) (s := sn) (l := ln) (x0 := 108) (x1 := 116) (by rfl) (by rfl) hc88
            have y1 := own_isF2 (g := g6) (s := sn) (l := ln) (x0 := 103) (x1 := 116) (by rfl) (by rfl) hc109
            have y2 := own_isF3 (g := g6) (s := sn) (l := ln) (x0 := 97) (x1 := 109) (x2 := 112) (by rfl) (by rfl) (by rfl) hc130
            have y3 := own_isF4 (g := g6) (s := sn) (l := ln) (x0 := 97) (x1 := 112) (x2 := 111) (x3 := 115) (by rfl) (by rfl) (by rfl) (by rfl) hc151
            have y4 := own_isF4 (g := g6) (s := sn) (l := ln) (x0 := 113) (x1 := 117) (x2 := 111) (x3 := 116) (by rfl) (by rfl) (by rfl) (by rfl) hc172
            have hc203 : v64.toInt = (-1 : Int) := by rw [← hv64]; unfold own_pre; (repeat' split); all_goals (first | rfl | (exfalso; omega))
            refine gw_icmpNo X63 hx hby at_203 (pc' := 206) (teq (show v64 = (-1 : Int32) from Int32.toInt_inj.mp hc203)).2 rfl ?_
            refine gw_iconst X63 hx hby at_206 (pc' := 207) rfl (z := (1 : Int32)) rfl ?_
            refine gw_goto X63 hx hby at_207 (pc' := 211) (by decide) (by decide) ?_
            refine GoW.retZ (a0 := a0) X63 hx hlk hret (by simp) (hb hby at_211) (by decide) (by decide) ?_
            exact ⟨_, hh63, Lk59, hZ, hEL, Ch59, rfl, N63⟩
          · refine gw_ifNo X60 hx hby at_172 (pc' := 175) (feq (show ¬ ((own_is g6 sn ln 4 (own_l [(113 : Int32), (117 : Int32), (111 : Int32), (116 : Int32)])) = (0 : Int32)) from fun q => hc172 (congrArg Int32.toInt q))).1 rfl ?_
            refine gw_bipush X60 hx hby at_175 (pc' := 177) rfl (z := (34 : Int32)) rfl ?_
            refine gw_istore X60 hx hby at_177 (pc' := 179) rfl (L' := #[.val (.int p1), .val (.int p2), .val (.int p3), .val (.int p4), .val (.int p5), .val (.int p6), .val (.ref b1), .val (.int v39), .val (.int v41), .val (.int (34 : Int32)), .unset]) rfl ?_
            refine gw_goto X60 hx hby at_179 (pc' := 185) (by decide) (by decide) ?_
            refine gw_aload X60 hx hby at_185 (pc' := 187) rfl rfl rfl ?_
            refine gw_iload X60 hx hby at_187 (pc' := 189) rfl rfl ?_
            refine gw_iload X60 hx hby at_189 (pc' := 191) rfl rfl ?_
            refine gw_iload X60 hx hby at_191 (pc' := 193) rfl rfl ?_
            refine gw_iadd X60 hx hby at_193 (pc' := 194) rfl rfl ?_
            refine GoW.callS X60 hx hZ hown (wi hw 55 rfl) (wi hw 56 rfl) (wi hw 57 rfl) (wi hw 58 rfl) (by decide) hh60 (argsL := [(.ref b1), (.int v39), (.int (v39 + v41))]) (rest := []) (W := 0) (rm_pre l Z a0 hw b1 v39 (v39 + v41) g6 sn ln h59 n0 (Nat.le_trans (Nat.le_trans (Nat.le_trans z47 E51.1) E55.1) E59.1) f61 hsn (by have : ((v39 + v41).toInt - (v39.toInt + v41.toInt)) % 4294967296 = 0 := c_iadd _ _; have : -2147483648 ≤ (v39 + v41).toInt ∧ (v39 + v41).toInt < 2147483648 := rng32 _; have : -2147483648 ≤ v39.toInt ∧ v39.toInt < 2147483648 := rng32 _; have : -2147483648 ≤ v41.toInt ∧ v41.toInt < 2147483648 := rng32 _; omega) (by omega) (by omega)) (hb hby at_194) (by rw [hml]; rfl) rfl pd9 rfl rfl (by decide) (by decide) (by decide) (by decide) ?_
            intro v65 T65 L65 X65 hQ65
            obtain ⟨rfl, Nq65, hh65⟩ := hQ65
            have N65 := Fr.app N60 Nq65
            refine GoW.push (pc' := 197) rfl ?_
            generalize hv66 : (own_pre g6 sn ln) = v66
            refine gw_istore X65 hx hby at_197 (pc' := 199) rfl (L' := #[.val (.int p1), .val (.int p2), .val (.int p3), .val (.int p4), .val (.int p5), .val (.int p6), .val (.ref b1), .val (.int v39), .val (.int v41), .val (.int (34 : Int32)), .val (.int v66)]) rfl ?_
            refine gw_iload X65 hx hby at_199 (pc' := 201) rfl rfl ?_
            refine gw_iload X65 hx hby at_201 (pc' := 203) rfl rfl ?_
            have y0 := own_isF2 (g := g6) (s := sn) (l := ln) (x0 := 108) (x1 := 116) (by rfl) (by rfl) hc88
            have y1 := own_isF2 (g := g6) (s := sn) (l := ln) (x0 := 103) (x1 := 116) (by rfl) (by rfl) hc109
            have y2 := own_isF3 (g := g6) (s := sn) (l := ln) (x0 := 97) (x1 := 109) (x2 := 112) (by rfl) (by rfl) (by rfl) hc130
            have y3 := own_isF4 (g := g6) (s := sn) (l := ln) (x0 := 97) (x1 := 112) (x2 := 111) (x3 := 115) (by rfl) (by rfl) (by rfl) (by rfl) hc151
            have y4 := own_isT4 (g := g6) (s := sn) (l := ln) (x0 := 113) (x1 := 117) (x2 := 111) (x3 := 116) (by rfl) (by rfl) (by rfl) (by rfl) hc172
            have hc203 : v66.toInt = (34 : Int) := by rw [← hv66]; unfold own_pre; (repeat' split); all_goals (first | rfl | (exfalso; omega))
            refine gw_icmpNo X65 hx hby at_203 (pc' := 206) (teq (show v66 = (34 : Int32) from Int32.toInt_inj.mp hc203)).2 rfl ?_
            refine gw_iconst X65 hx hby at_206 (pc' := 207) rfl (z := (1 : Int32)) rfl ?_
            refine gw_goto X65 hx hby at_207 (pc' := 211) (by decide) (by decide) ?_
            refine GoW.retZ (a0 := a0) X65 hx hlk hret (by simp) (hb hby at_211) (by decide) (by decide) ?_
            exact ⟨_, hh65, Lk59, hZ, hEL, Ch59, rfl, N65⟩
        · refine gw_ifNo X56 hx hby at_151 (pc' := 154) (feq (show ¬ ((own_is g6 sn ln 4 (own_l [(97 : Int32), (112 : Int32), (111 : Int32), (115 : Int32)])) = (0 : Int32)) from fun q => hc151 (congrArg Int32.toInt q))).1 rfl ?_
          refine gw_bipush X56 hx hby at_154 (pc' := 156) rfl (z := (39 : Int32)) rfl ?_
          refine gw_istore X56 hx hby at_156 (pc' := 158) rfl (L' := #[.val (.int p1), .val (.int p2), .val (.int p3), .val (.int p4), .val (.int p5), .val (.int p6), .val (.ref b1), .val (.int v39), .val (.int v41), .val (.int (39 : Int32)), .unset]) rfl ?_
          refine gw_goto X56 hx hby at_158 (pc' := 185) (by decide) (by decide) ?_
          refine gw_aload X56 hx hby at_185 (pc' := 187) rfl rfl rfl ?_
          refine gw_iload X56 hx hby at_187 (pc' := 189) rfl rfl ?_
          refine gw_iload X56 hx hby at_189 (pc' := 191) rfl rfl ?_
          refine gw_iload X56 hx hby at_191 (pc' := 193) rfl rfl ?_
          refine gw_iadd X56 hx hby at_193 (pc' := 194) rfl rfl ?_
          refine GoW.callS X56 hx hZ hown (wi hw 55 rfl) (wi hw 56 rfl) (wi hw 57 rfl) (wi hw 58 rfl) (by decide) hh56 (argsL := [(.ref b1), (.int v39), (.int (v39 + v41))]) (rest := []) (W := 0) (rm_pre l Z a0 hw b1 v39 (v39 + v41) g6 sn ln h55 n0 (Nat.le_trans (Nat.le_trans z47 E51.1) E55.1) f57 hsn (by have : ((v39 + v41).toInt - (v39.toInt + v41.toInt)) % 4294967296 = 0 := c_iadd _ _; have : -2147483648 ≤ (v39 + v41).toInt ∧ (v39 + v41).toInt < 2147483648 := rng32 _; have : -2147483648 ≤ v39.toInt ∧ v39.toInt < 2147483648 := rng32 _; have : -2147483648 ≤ v41.toInt ∧ v41.toInt < 2147483648 := rng32 _; omega) (by omega) (by omega)) (hb hby at_194) (by rw [hml]; rfl) rfl pd9 rfl rfl (by decide) (by decide) (by decide) (by decide) ?_
          intro v67 T67 L67 X67 hQ67
          obtain ⟨rfl, Nq67, hh67⟩ := hQ67
          have N67 := Fr.app N56 Nq67
          refine GoW.push (pc' := 197) rfl ?_
          generalize hv68 : (own_pre g6 sn ln) = v68
          refine gw_istore X67 hx hby at_197 (pc' := 199) rfl (L' := #[.val (.int p1), .val (.int p2), .val (.int p3), .val (.int p4), .val (.int p5), .val (.int p6), .val (.ref b1), .val (.int v39), .val (.int v41), .val (.int (39 : Int32)), .val (.int v68)]) rfl ?_
          refine gw_iload X67 hx hby at_199 (pc' := 201) rfl rfl ?_
          refine gw_iload X67 hx hby at_201 (pc' := 203) rfl rfl ?_
          have y0 := own_isF2 (g := g6) (s := sn) (l := ln) (x0 := 108) (x1 := 116) (by rfl) (by rfl) hc88
          have y1 := own_isF2 (g := g6) (s := sn) (l := ln) (x0 := 103) (x1 := 116) (by rfl) (by rfl) hc109
          have y2 := own_isF3 (g := g6) (s := sn) (l := ln) (x0 := 97) (x1 := 109) (x2 := 112) (by rfl) (by rfl) (by rfl) hc130
          have y3 := own_isT4 (g := g6) (s := sn) (l := ln) (x0 := 97) (x1 := 112) (x2 := 111) (x3 := 115) (by rfl) (by rfl) (by rfl) (by rfl) hc151
          have hc203 : v68.toInt = (39 : Int) := by rw [← hv68]; unfold own_pre; (repeat' split); all_goals (first | rfl | (exfalso; omega))
          refine gw_icmpNo X67 hx hby at_203 (pc' := 206) (teq (show v68 = (39 : Int32) from Int32.toInt_inj.mp hc203)).2 rfl ?_
          refine gw_iconst X67 hx hby at_206 (pc' := 207) rfl (z := (1 : Int32)) rfl ?_
          refine gw_goto X67 hx hby at_207 (pc' := 211) (by decide) (by decide) ?_
          refine GoW.retZ (a0 := a0) X67 hx hlk hret (by simp) (hb hby at_211) (by decide) (by decide) ?_
          exact ⟨_, hh67, Lk55, hZ, hEL, Ch55, rfl, N67⟩
      · refine gw_ifNo X52 hx hby at_130 (pc' := 133) (feq (show ¬ ((own_is g6 sn ln 3 (own_l [(97 : Int32), (109 : Int32), (112 : Int32)])) = (0 : Int32)) from fun q => hc130 (congrArg Int32.toInt q))).1 rfl ?_
        refine gw_bipush X52 hx hby at_133 (pc' := 135) rfl (z := (38 : Int32)) rfl ?_
        refine gw_istore X52 hx hby at_135 (pc' := 137) rfl (L' := #[.val (.int p1), .val (.int p2), .val (.int p3), .val (.int p4), .val (.int p5), .val (.int p6), .val (.ref b1), .val (.int v39), .val (.int v41), .val (.int (38 : Int32)), .unset]) rfl ?_
        refine gw_goto X52 hx hby at_137 (pc' := 185) (by decide) (by decide) ?_
        refine gw_aload X52 hx hby at_185 (pc' := 187) rfl rfl rfl ?_
        refine gw_iload X52 hx hby at_187 (pc' := 189) rfl rfl ?_
        refine gw_iload X52 hx hby at_189 (pc' := 191) rfl rfl ?_
        refine gw_iload X52 hx hby at_191 (pc' := 193) rfl rfl ?_
        refine gw_iadd X52 hx hby at_193 (pc' := 194) rfl rfl ?_
        refine GoW.callS X52 hx hZ hown (wi hw 55 rfl) (wi hw 56 rfl) (wi hw 57 rfl) (wi hw 58 rfl) (by decide) hh52 (argsL := [(.ref b1), (.int v39), (.int (v39 + v41))]) (rest := []) (W := 0) (rm_pre l Z a0 hw b1 v39 (v39 + v41) g6 sn ln h51 n0 (Nat.le_trans z47 E51.1) f53 hsn (by have : ((v39 + v41).toInt - (v39.toInt + v41.toInt)) % 4294967296 = 0 := c_iadd _ _; have : -2147483648 ≤ (v39 + v41).toInt ∧ (v39 + v41).toInt < 2147483648 := rng32 _; have : -2147483648 ≤ v39.toInt ∧ v39.toInt < 2147483648 := rng32 _; have : -2147483648 ≤ v41.toInt ∧ v41.toInt < 2147483648 := rng32 _; omega) (by omega) (by omega)) (hb hby at_194) (by rw [hml]; rfl) rfl pd9 rfl rfl (by decide) (by decide) (by decide) (by decide) ?_
        intro v69 T69 L69 X69 hQ69
        obtain ⟨rfl, Nq69, hh69⟩ := hQ69
        have N69 := Fr.app N52 Nq69
        refine GoW.push (pc' := 197) rfl ?_
        generalize hv70 : (own_pre g6 sn ln) = v70
        refine gw_istore X69 hx hby at_197 (pc' := 199) rfl (L' := #[.val (.int p1), .val (.int p2), .val (.int p3), .val (.int p4), .val (.int p5), .val (.int p6), .val (.ref b1), .val (.int v39), .val (.int v41), .val (.int (38 : Int32)), .val (.int v70)]) rfl ?_
        refine gw_iload X69 hx hby at_199 (pc' := 201) rfl rfl ?_
        refine gw_iload X69 hx hby at_201 (pc' := 203) rfl rfl ?_
        have y0 := own_isF2 (g := g6) (s := sn) (l := ln) (x0 := 108) (x1 := 116) (by rfl) (by rfl) hc88
        have y1 := own_isF2 (g := g6) (s := sn) (l := ln) (x0 := 103) (x1 := 116) (by rfl) (by rfl) hc109
        have y2 := own_isT3 (g := g6) (s := sn) (l := ln) (x0 := 97) (x1 := 109) (x2 := 112) (by rfl) (by rfl) (by rfl) hc130
        have hc203 : v70.toInt = (38 : Int) := by rw [← hv70]; unfold own_pre; (repeat' split); all_goals (first | rfl | (exfalso; omega))
        refine gw_icmpNo X69 hx hby at_203 (pc' := 206) (teq (show v70 = (38 : Int32) from Int32.toInt_inj.mp hc203)).2 rfl ?_
        refine gw_iconst X69 hx hby at_206 (pc' := 207) rfl (z := (1 : Int32)) rfl ?_
        refine gw_goto X69 hx hby at_207 (pc' := 211) (by decide) (by decide) ?_
        refine GoW.retZ (a0 := a0) X69 hx hlk hret (by simp) (hb hby at_211) (by decide) (by decide) ?_
        exact ⟨_, hh69, Lk51, hZ, hEL, Ch51, rfl, N69⟩
    · refine gw_ifNo X48 hx hby at_109 (pc' := 112) (feq (show ¬ ((own_is g6 sn ln 2 (own_l [(103 : Int32), (116 : Int32)])) = (0 : Int32)) from fun q => hc109 (congrArg Int32.toInt q))).1 rfl ?_
      refine gw_bipush X48 hx hby at_112 (pc' := 114) rfl (z := (62 : Int32)) rfl ?_
      refine gw_istore X48 hx hby at_114 (pc' := 116) rfl (L' := #[.val (.int p1), .val (.int p2), .val (.int p3), .val (.int p4), .val (.int p5), .val (.int p6), .val (.ref b1), .val (.int v39), .val (.int v41), .val (.int (62 : Int32)), .unset]) rfl ?_
      refine gw_goto X48 hx hby at_116 (pc' := 185) (by decide) (by decide) ?_
      refine gw_aload X48 hx hby at_185 (pc' := 187) rfl rfl rfl ?_
      refine gw_iload X48 hx hby at_187 (pc' := 189) rfl rfl ?_
      refine gw_iload X48 hx hby at_189 (pc' := 191) rfl rfl ?_
      refine gw_iload X48 hx hby at_191 (pc' := 193) rfl rfl ?_
      refine gw_iadd X48 hx hby at_193 (pc' := 194) rfl rfl ?_
      refine GoW.callS X48 hx hZ hown (wi hw 55 rfl) (wi hw 56 rfl) (wi hw 57 rfl) (wi hw 58 rfl) (by decide) hh48 (argsL := [(.ref b1), (.int v39), (.int (v39 + v41))]) (rest := []) (W := 0) (rm_pre l Z a0 hw b1 v39 (v39 + v41) g6 sn ln h46 n0 z47 f49 hsn (by have : ((v39 + v41).toInt - (v39.toInt + v41.toInt)) % 4294967296 = 0 := c_iadd _ _; have : -2147483648 ≤ (v39 + v41).toInt ∧ (v39 + v41).toInt < 2147483648 := rng32 _; have : -2147483648 ≤ v39.toInt ∧ v39.toInt < 2147483648 := rng32 _; have : -2147483648 ≤ v41.toInt ∧ v41.toInt < 2147483648 := rng32 _; omega) (by omega) (by omega)) (hb hby at_194) (by rw [hml]; rfl) rfl pd9 rfl rfl (by decide) (by decide) (by decide) (by decide) ?_
      intro v71 T71 L71 X71 hQ71
      obtain ⟨rfl, Nq71, hh71⟩ := hQ71
      have N71 := Fr.app N48 Nq71
      refine GoW.push (pc' := 197) rfl ?_
      generalize hv72 : (own_pre g6 sn ln) = v72
      refine gw_istore X71 hx hby at_197 (pc' := 199) rfl (L' := #[.val (.int p1), .val (.int p2), .val (.int p3), .val (.int p4), .val (.int p5), .val (.int p6), .val (.ref b1), .val (.int v39), .val (.int v41), .val (.int (62 : Int32)), .val (.int v72)]) rfl ?_
      refine gw_iload X71 hx hby at_199 (pc' := 201) rfl rfl ?_
      refine gw_iload X71 hx hby at_201 (pc' := 203) rfl rfl ?_
      have y0 := own_isF2 (g := g6) (s := sn) (l := ln) (x0 := 108) (x1 := 116) (by rfl) (by rfl) hc88
      have y1 := own_isT2 (g := g6) (s := sn) (l := ln) (x0 := 103) (x1 := 116) (by rfl) (by rfl) hc109
      have hc203 : v72.toInt = (62 : Int) := by rw [← hv72]; unfold own_pre; (repeat' split); all_goals (first | rfl | (exfalso; omega))
      refine gw_icmpNo X71 hx hby at_203 (pc' := 206) (teq (show v72 = (62 : Int32) from Int32.toInt_inj.mp hc203)).2 rfl ?_
      refine gw_iconst X71 hx hby at_206 (pc' := 207) rfl (z := (1 : Int32)) rfl ?_
      refine gw_goto X71 hx hby at_207 (pc' := 211) (by decide) (by decide) ?_
      refine GoW.retZ (a0 := a0) X71 hx hlk hret (by simp) (hb hby at_211) (by decide) (by decide) ?_
      exact ⟨_, hh71, Lk46, hZ, hEL, Ch46, rfl, N71⟩
  · refine gw_ifNo X43 hx hby at_88 (pc' := 91) (feq (show ¬ ((own_is g6 sn ln 2 (own_l [(108 : Int32), (116 : Int32)])) = (0 : Int32)) from fun q => hc88 (congrArg Int32.toInt q))).1 rfl ?_
    refine gw_bipush X43 hx hby at_91 (pc' := 93) rfl (z := (60 : Int32)) rfl ?_
    refine gw_istore X43 hx hby at_93 (pc' := 95) rfl (L' := #[.val (.int p1), .val (.int p2), .val (.int p3), .val (.int p4), .val (.int p5), .val (.int p6), .val (.ref b1), .val (.int v39), .val (.int v41), .val (.int (60 : Int32)), .unset]) rfl ?_
    refine gw_goto X43 hx hby at_95 (pc' := 185) (by decide) (by decide) ?_
    refine gw_aload X43 hx hby at_185 (pc' := 187) rfl rfl rfl ?_
    refine gw_iload X43 hx hby at_187 (pc' := 189) rfl rfl ?_
    refine gw_iload X43 hx hby at_189 (pc' := 191) rfl rfl ?_
    refine gw_iload X43 hx hby at_191 (pc' := 193) rfl rfl ?_
    refine gw_iadd X43 hx hby at_193 (pc' := 194) rfl rfl ?_
    refine GoW.callS X43 hx hZ hown (wi hw 55 rfl) (wi hw 56 rfl) (wi hw 57 rfl) (wi hw 58 rfl) (by decide) hh43 (argsL := [(.ref b1), (.int v39), (.int (v39 + v41))]) (rest := []) (W := 0) (rm_pre l Z a0 hw b1 v39 (v39 + v41) g6 sn ln h42 n0 (Nat.le_trans (Nat.le_trans (Nat.le_trans (Nat.le_trans z29 (Nat.le_of_eq (Wr.size W31).symm)) Kq33.1) (Nat.le_of_eq (Wr.size W36).symm)) E42.1) f44 hsn (by have : ((v39 + v41).toInt - (v39.toInt + v41.toInt)) % 4294967296 = 0 := c_iadd _ _; have : -2147483648 ≤ (v39 + v41).toInt ∧ (v39 + v41).toInt < 2147483648 := rng32 _; have : -2147483648 ≤ v39.toInt ∧ v39.toInt < 2147483648 := rng32 _; have : -2147483648 ≤ v41.toInt ∧ v41.toInt < 2147483648 := rng32 _; omega) (by omega) (by omega)) (hb hby at_194) (by rw [hml]; rfl) rfl pd9 rfl rfl (by decide) (by decide) (by decide) (by decide) ?_
    intro v73 T73 L73 X73 hQ73
    obtain ⟨rfl, Nq73, hh73⟩ := hQ73
    have N73 := Fr.app N43 Nq73
    refine GoW.push (pc' := 197) rfl ?_
    generalize hv74 : (own_pre g6 sn ln) = v74
    refine gw_istore X73 hx hby at_197 (pc' := 199) rfl (L' := #[.val (.int p1), .val (.int p2), .val (.int p3), .val (.int p4), .val (.int p5), .val (.int p6), .val (.ref b1), .val (.int v39), .val (.int v41), .val (.int (60 : Int32)), .val (.int v74)]) rfl ?_
    refine gw_iload X73 hx hby at_199 (pc' := 201) rfl rfl ?_
    refine gw_iload X73 hx hby at_201 (pc' := 203) rfl rfl ?_
    have y0 := own_isT2 (g := g6) (s := sn) (l := ln) (x0 := 108) (x1 := 116) (by rfl) (by rfl) hc88
    have hc203 : v74.toInt = (60 : Int) := by rw [← hv74]; unfold own_pre; (repeat' split); all_goals (first | rfl | (exfalso; omega))
    refine gw_icmpNo X73 hx hby at_203 (pc' := 206) (teq (show v74 = (60 : Int32) from Int32.toInt_inj.mp hc203)).2 rfl ?_
    refine gw_iconst X73 hx hby at_206 (pc' := 207) rfl (z := (1 : Int32)) rfl ?_
    refine gw_goto X73 hx hby at_207 (pc' := 211) (by decide) (by decide) ?_
    refine GoW.retZ (a0 := a0) X73 hx hlk hret (by simp) (hb hby at_211) (by decide) (by decide) ?_
    exact ⟨_, hh73, Lk42, hZ, hEL, Ch42, rfl, N73⟩
set_option maxRecDepth 65536 in
set_option maxHeartbeats 40000000 in
theorem comes_1 {Post : Tables → Env → Array Value → State → Outcome → State → Prop} (hpost : ∀ tb e args s v u, (limb_1_1.after args s (.returned v) u = true ∧ limb_1_2.after args s (.returned v) u = true) → ReturnedEndW s (.returned v) u (Jvm.fieldLocs frame_1_writes args s ++ Jvm.arrayLocs frame_1_arrays args s ++ Jvm.staticLocs frame_1_statics s) 24 6272 → Post tb e args s (.returned v) u) :
    ArmFor flags0 classFile x code maxLocals ret World_1 tables_1 room_1 Calls_1 rest_1 Pre_1 Post := by
  intro l hfl _ _ p e ha hc hk s m args below hf hA hF happ hP
  obtain ⟨hcalls, hrest, hpre⟩ := hP
  obtain ⟨-, -, -, hnamed, -, -, -, hat⟩ := (Spec.applies_iff hf).mp happ
  obtain ⟨hg, hn⟩ := and_e (Cond.before_iff.mp (show (Jvm.Cond.and given_1 narrow_1).before args s = true from hpre))
  obtain ⟨g0, r0⟩ := and_e hg
  obtain ⟨g1, r1⟩ := and_e r0
  obtain ⟨g2, r2⟩ := and_e r1
  obtain ⟨g3, r3⟩ := and_e r2
  obtain ⟨g4, r4⟩ := and_e r3
  obtain ⟨g5, g6⟩ := and_e r4
  obtain ⟨w0, w1, w2, w3, w4, w5, rfl⟩ : ∃ w0 w1 w2 w3 w4 w5 : Value, args = #[w0, w1, w2, w3, w4, w5] := by
    have hs : args.size = 6 := by simpa [Cond.value, given_1] using g0
    obtain ⟨L⟩ := args
    match L, hs with
    | [w0, w1, w2, w3, w4, w5], _ => exact ⟨w0, w1, w2, w3, w4, w5, rfl⟩
  have hw := fun d (hd : d ∈ tables_1) => atoms_spec (ws := Jvm.Cond.code x code maxLocals ret :: tables_1) hat d (List.mem_cons_of_mem _ hd)
  have hfit : Fit s := fun {y c} hc i hi => by
    obtain ⟨ha, rfl⟩ := Array.getElem?_eq_some_iff.mp hc
    have q := List.all_eq_true.mp ((Array.all_eq_true_iff_forall_mem.mp hF) _ (Array.getElem_mem ha)) i (List.mem_range.mpr hi)
    simpa [Array.getElem?_eq_getElem hi] using q
  obtain ⟨i0, ei0⟩ := is_v g1
  obtain rfl : w0 = (.int i0) := Option.some.inj ei0
  obtain ⟨i1, ei1⟩ := is_v g2
  obtain rfl : w1 = (.int i1) := Option.some.inj ei1
  obtain ⟨i2, ei2⟩ := is_v g3
  obtain rfl : w2 = (.int i2) := Option.some.inj ei2
  obtain ⟨i3, ei3⟩ := is_v g4
  obtain rfl : w3 = (.int i3) := Option.some.inj ei3
  obtain ⟨i4, ei4⟩ := is_v g5
  obtain rfl : w4 = (.int i4) := Option.some.inj ei4
  obtain ⟨i5, ei5⟩ := is_v g6
  obtain rfl : w5 = (.int i5) := Option.some.inj ei5
  obtain ⟨hsets, hown0⟩ := atoms_of _ (rest_1_c_eq ▸ (show rest_1_c.before _ s = true from hrest))
  have n5 := not_v (Cond.before_iff.mp (hsets _ (List.mem_of_getElem? (i := 2) rfl)))
  obtain ⟨j11, e10⟩ := is_v (Cond.before_iff.mp (hsets _ (List.mem_of_getElem? (i := 1) rfl)))
  have S12 : Sta s s.heap "java/lang/String" "COMPACT_STRINGS" "Z" (.int j11) := Sta.start e10 (Or.inl (hsets _ (List.mem_of_getElem? (i := 0) rfl)))
  obtain ⟨v13, e14, r15⟩ := isR_v (Cond.before_iff.mp (hsets _ (List.mem_of_getElem? (i := 8) rfl)))
  have S16 : Sta s s.heap "jdk/internal/util/Preconditions" "SIOOBE_FORMATTER" "Ljava/util/function/BiFunction;" v13 := Sta.start e14 (Or.inl (hsets _ (List.mem_of_getElem? (i := 7) rfl)))
  have c17 : ¬ (j11 = (0 : Int32)) := gotF (Cond.eq_ints e10 (Term.int_eval (0))) n5
  have hCH : CHv s consts_1 s.vm s.heap := CHv.start (own_EW hw) (show ∀ p ∈ consts_1, Jvm.Lit.constHeld s p.1 p.2 from hcalls.1) (hsets _ (List.mem_of_getElem? (i := 2) rfl)) (wi hw 0 rfl) (wi hw 7 rfl)
  obtain ⟨n, o, h1, h2, h3, _, L, rfl, ⟨rfl, N⟩, hCe, hq⟩ := rm0 l s _ hw tables_1 i0 i1 i2 i3 i4 i5 j11 v13 s.heap s.heap.size (Nat.le_refl _) S12 (fun q => c17 (Int32.toInt_inj.mp q)) S16 r15 (Old.start s) p e ha hc hk s m _ below hf ((Spec.applies_iff_loose hf).mp happ).1 ⟨rfl, State.Warmed39.refl s, rfl, hCH⟩ trivial
  refine ⟨n, _, h1, h2, h3, hpost _ _ _ _ _ _ ⟨Cond.after_iff.mpr rfl, Cond.after_iff.mpr (eq_i res_at (Term.int_eval (1)) rfl)⟩ ⟨hq.1, hq.2.1, hq.2.2.1, (hq.2.2.2.sift fun y hy => Or.inr (N y hy)).mono (by decide) (by decide)⟩⟩
theorem main_1_1 : Claimed_1_1 := comes_1 fun _ _ _ _ _ _ h hF => ⟨h.1, hF⟩
theorem main_1_2 : Claimed_1_2 := comes_1 fun _ _ _ _ _ _ h hF => ⟨h.2, hF⟩
end Jvm.Pilot.@@N@@
namespace Jvm.Pilot.@@N@@
open Jvm Jvm.ClassFile Sem Op Lib Jvm.Free Jvm.Stand Jvm.Pilot.@@N@@.Jvm.D
/-! MADE BY PROGRAM (witnessworld.py) out of the Statement's table words and the real class files: 17 classes; the members and pool entries that the words name. The judged class is class 1, her method 3. -/
namespace start1
open Jvm.ClassFile
def u (s : String) : CpInfo := .utf8 (stringToUtf16 s)
/-- a pool by its gaps: so many unusable entries, then the entry; so many at the end -/
def gap : Nat → List CpInfo → List CpInfo
  | 0, r => r
  | n + 1, r => .unusable :: gap n r
def poolList (es : List (Nat × CpInfo)) (last : Nat) : List CpInfo := es.foldr (fun e r => gap e.1 (e.2 :: r)) (gap last [])
def pool (es : List (Nat × CpInfo)) (last : Nat) : Array CpInfo := ⟨poolList es last⟩
def fileOf (pool : Array CpInfo) (this : Nat) (attrs : Array Attribute := #[]) (ms : Array MethodInfo := #[]) (fl : Nat := 33) (sup : Nat := 0) (ifs : Array Nat := #[]) (fds : Array FieldInfo := #[]) : ClassFile where
  minorVersion := 0
  majorVersion := 65
  constantPool := pool
  accessFlags := fl
  thisClass := this
  superClass := sup
  interfaces := ifs
  fields := fds
  methods := ms
  attributes := attrs
def plain (name : String) (sup : Option ClassId) : Class where
  name := name
  kind := .ordinary
  loader := none
  accessFlags := 33
  super := sup
  interfaces := #[]
  cf := none
  fields := #[]
  methods := #[]
  instanceTypes := #[]
  staticTypes := #[]
  resolved := #[]
  callSites := []
  init := .initialized
  statics := none
  mirror := none

def pool0 : Array CpInfo := pool [(5, u "<init>"), (0, u "()V"), (1, .class_ 10), (1, u "java/lang/Object")] 113

def k0m0 : Method := { name := "<init>", desc := "()V", sig := { parameters := [], returnType := none }, accessFlags := 1, code := none }
/-- java/lang/Object -/
def k0 : Class := { plain "java/lang/Object" none with
  accessFlags := 33
  interfaces := #[]
  cf := some (fileOf pool0 8 #[] #[{ accessFlags := 1, nameIndex := 5, descriptorIndex := 6, attributes := #[] }] 33 0 #[] #[])
  fields := #[]
  methods := #[k0m0]
  instanceTypes := #[]
  staticTypes := #[]
  resolved := Array.replicate 124 none
  statics := none }

def pool1 : Array CpInfo := pool [(2, .class_ 4), (1, u "java/lang/Object"), (0, u "<init>"), (0, u "()V"), (0, .string 8), (0, u "lgtampoqus"), (0, .methodref 10 11), (0, .class_ 12), (0, .nameAndType 13 14), (0, u "java/lang/String"), (0, u "charAt"), (0, u "(I)C"), (0, .methodref 10 16), (0, .nameAndType 17 18), (0, u "length"), (0, u "()I"), (0, .methodref 20 21), (0, .class_ 22), (0, .nameAndType 23 24), (0, u "com/example/tweak_tags/tweaktags/GeneralEntitiesPredefinedPinLaw"), (0, u "pick"), (0, u "(I)B"), (0, .string 26), (0, u "lt"), (0, .methodref 20 28), (0, .nameAndType 29 30), (0, u "is"), (0, u "([BIILjava/lang/String;)Z"), (0, .string 32), (0, u "gt"), (0, .string 34), (0, u "amp"), (0, .string 36), (0, u "apos"), (0, .string 38), (0, u "quot"), (0, .methodref 40 41), (0, .class_ 42), (0, .nameAndType 43 44), (0, u "com/example/tweak_tags/tweaktags/GeneralEntities"), (0, u "predefined"), (0, u "([BII)I"), (3, u "law"), (0, u "(IIIIII)Z")] 4

def k1m0 : Method := { name := "<init>", desc := "()V", sig := { parameters := [], returnType := none }, accessFlags := 2, code := none }
def k1c1 : Code := { maxStack := 3, maxLocals := 2, code := method_2_code, exceptionTable := #[], attributes := #[] }
def k1m1 : Method := { name := "pick", desc := "(I)B", sig := { parameters := [.int], returnType := some .byte }, accessFlags := 10, code := some k1c1 }
def k1c2 : Code := { maxStack := 3, maxLocals := 5, code := method_3_code, exceptionTable := #[], attributes := #[] }
def k1m2 : Method := { name := "is", desc := "([BIILjava/lang/String;)Z", sig := { parameters := [(.array .byte), .int, .int, (.object "java/lang/String")], returnType := some .boolean }, accessFlags := 10, code := some k1c2 }
def k1c3 : Code := { maxStack := 4, maxLocals := 11, code := code, exceptionTable := #[], attributes := #[] }
def k1m3 : Method := { name := "law", desc := "(IIIIII)Z", sig := { parameters := [.int, .int, .int, .int, .int, .int], returnType := some .boolean }, accessFlags := 9, code := some k1c3 }
/-- com/example/tweak_tags/tweaktags/GeneralEntitiesPredefinedPinLaw -/
def k1 : Class := { plain "com/example/tweak_tags/tweaktags/GeneralEntitiesPredefinedPinLaw" (some 0) with
  accessFlags := 49
  interfaces := #[]
  cf := some (fileOf pool1 20 #[] #[{ accessFlags := 2, nameIndex := 5, descriptorIndex := 6, attributes := #[] }, { accessFlags := 10, nameIndex := 23, descriptorIndex := 24, attributes := #[] }, { accessFlags := 10, nameIndex := 29, descriptorIndex := 30, attributes := #[] }, { accessFlags := 9, nameIndex := 48, descriptorIndex := 49, attributes := #[] }] 49 2 #[] #[])
  fields := #[]
  methods := #[k1m0, k1m1, k1m2, k1m3]
  instanceTypes := #[]
  staticTypes := #[]
  resolved := Array.replicate 54 none
  statics := none }

def pool2 : Array CpInfo := pool [(1, .class_ 2), (0, u "java/io/Serializable"), (0, .class_ 4), (0, u "java/lang/Object")] 2

/-- java/io/Serializable -/
def k2 : Class := { plain "java/io/Serializable" (some 0) with
  accessFlags := 1537
  interfaces := #[]
  cf := some (fileOf pool2 1 #[] #[] 1537 3 #[] #[])
  fields := #[]
  methods := #[]
  instanceTypes := #[]
  staticTypes := #[]
  resolved := Array.replicate 7 none
  statics := none }

def pool3 : Array CpInfo := pool [(1, .class_ 2), (0, u "java/lang/Comparable"), (0, .class_ 4), (0, u "java/lang/Object")] 7

/-- java/lang/Comparable -/
def k3 : Class := { plain "java/lang/Comparable" (some 0) with
  accessFlags := 1537
  interfaces := #[]
  cf := some (fileOf pool3 1 #[] #[] 1537 3 #[] #[])
  fields := #[]
  methods := #[]
  instanceTypes := #[]
  staticTypes := #[]
  resolved := Array.replicate 12 none
  statics := none }

def pool4 : Array CpInfo := pool [(2, .class_ 4), (1, u "java/lang/CharSequence"), (42, .class_ 48), (0, u "java/lang/CharSequence$1CodePointIterator"), (10, .class_ 60), (0, u "java/lang/CharSequence$1CharIterator"), (5, .class_ 67), (0, u "java/lang/Object")] 63

/-- java/lang/CharSequence -/
def k4 : Class := { plain "java/lang/CharSequence" (some 0) with
  accessFlags := 1537
  interfaces := #[]
  cf := some (fileOf pool4 2 #[.nestMembers #[47, 59]] #[] 1537 66 #[] #[])
  fields := #[]
  methods := #[]
  instanceTypes := #[]
  staticTypes := #[]
  resolved := Array.replicate 131 none
  statics := none }

def pool5 : Array CpInfo := pool [(1, .class_ 2), (0, u "java/lang/constant/Constable"), (0, .class_ 4), (0, u "java/lang/Object")] 6

/-- java/lang/constant/Constable -/
def k5 : Class := { plain "java/lang/constant/Constable" (some 0) with
  accessFlags := 1537
  interfaces := #[]
  cf := some (fileOf pool5 1 #[] #[] 1537 3 #[] #[])
  fields := #[]
  methods := #[]
  instanceTypes := #[]
  staticTypes := #[]
  resolved := Array.replicate 11 none
  statics := none }

def pool6 : Array CpInfo := pool [(1, .class_ 2), (0, u "java/lang/constant/ConstantDesc"), (0, .class_ 4), (0, u "java/lang/Object")] 32

/-- java/lang/constant/ConstantDesc -/
def k6 : Class := { plain "java/lang/constant/ConstantDesc" (some 0) with
  accessFlags := 1537
  interfaces := #[]
  cf := some (fileOf pool6 1 #[] #[] 1537 3 #[] #[])
  fields := #[]
  methods := #[]
  instanceTypes := #[]
  staticTypes := #[]
  resolved := Array.replicate 37 none
  statics := none }

def pool7 : Array CpInfo := pool [(2, .class_ 4), (1, u "java/lang/Object"), (0, u "<init>"), (0, u "()V"), (2, .fieldref 10 11), (0, .class_ 12), (0, .nameAndType 13 14), (0, u "java/lang/String"), (0, u "value"), (0, u "[B"), (0, .fieldref 10 16), (0, .nameAndType 17 18), (0, u "coder"), (0, u "B"), (2, u "hash"), (0, u "I"), (2, u "hashIsZero"), (0, u "Z"), (11, .fieldref 10 39), (0, .nameAndType 40 26), (0, u "COMPACT_STRINGS"), (66, .class_ 109), (1, u "java/lang/StringLatin1"), (32, u "()Z"), (191, u "()I"), (0, .methodref 10 336), (0, .nameAndType 17 337), (0, u "()B"), (25, u "([BI)C"), (27, u "(II)V"), (35, u "(I)C"), (64, .methodref 10 493), (0, .nameAndType 494 142), (0, u "isLatin1"), (0, .methodref 107 496), (0, .nameAndType 497 363), (0, u "charAt"), (3, u "checkIndex"), (5, u "length"), (67, .class_ 576), (0, u "java/lang/CharSequence"), (22, u "CASE_INSENSITIVE_ORDER"), (0, u "Ljava/util/Comparator;"), (452, .fieldref 1054 1055), (0, .class_ 1056), (0, .nameAndType 1057 1058), (0, u "jdk/internal/util/Preconditions"), (0, u "SIOOBE_FORMATTER"), (0, u "Ljava/util/function/BiFunction;"), (0, .methodref 1054 1060), (0, .nameAndType 501 1061), (0, u "(IILjava/util/function/BiFunction;)I"), (39, u "serialPersistentFields"), (0, u "[Ljava/io/ObjectStreamField;"), (0, .class_ 1104), (0, u "java/lang/String$CaseInsensitiveComparator"), (1, .class_ 1107), (0, u "java/io/Serializable"), (0, .class_ 1109), (0, u "java/lang/Comparable"), (0, .class_ 1111), (0, u "java/lang/constant/Constable"), (0, .class_ 1113), (0, u "java/lang/constant/ConstantDesc"), (2, u "serialVersionUID"), (0, u "J"), (3, u "REPL"), (0, u "C"), (2, u "LATIN1"), (1, u "UTF16")] 323

def k7m0 : Method := { name := "<init>", desc := "()V", sig := { parameters := [], returnType := none }, accessFlags := 1, code := none }
def k7c1 : Code := { maxStack := 2, maxLocals := 1, code := jdk_42_method_54_code, exceptionTable := #[], attributes := #[] }
def k7m1 : Method := { name := "length", desc := "()I", sig := { parameters := [], returnType := some .int }, accessFlags := 1, code := some k7c1 }
def k7c2 : Code := { maxStack := 2, maxLocals := 2, code := jdk_42_method_56_code, exceptionTable := #[], attributes := #[] }
def k7m2 : Method := { name := "charAt", desc := "(I)C", sig := { parameters := [.int], returnType := some .char }, accessFlags := 1, code := some k7c2 }
def k7c3 : Code := { maxStack := 1, maxLocals := 1, code := jdk_42_method_152_code, exceptionTable := #[], attributes := #[] }
def k7m3 : Method := { name := "coder", desc := "()B", sig := { parameters := [], returnType := some .byte }, accessFlags := 0, code := some k7c3 }
def k7c4 : Code := { maxStack := 1, maxLocals := 1, code := jdk_42_method_154_code, exceptionTable := #[], attributes := #[] }
def k7m4 : Method := { name := "isLatin1", desc := "()Z", sig := { parameters := [], returnType := some .boolean }, accessFlags := 0, code := some k7c4 }
def k7c5 : Code := { maxStack := 3, maxLocals := 2, code := jdk_42_method_155_code, exceptionTable := #[], attributes := #[] }
def k7m5 : Method := { name := "checkIndex", desc := "(II)V", sig := { parameters := [.int, .int], returnType := none }, accessFlags := 8, code := some k7c5 }
/-- java/lang/String -/
def k7 : Class := { plain "java/lang/String" (some 0) with
  accessFlags := 49
  interfaces := #[2, 3, 4, 5, 6]
  cf := some (fileOf pool7 10 #[.nestMembers #[1103]] #[{ accessFlags := 1, nameIndex := 5, descriptorIndex := 6, attributes := #[] }, { accessFlags := 1, nameIndex := 507, descriptorIndex := 334, attributes := #[] }, { accessFlags := 1, nameIndex := 497, descriptorIndex := 427, attributes := #[] }, { accessFlags := 0, nameIndex := 17, descriptorIndex := 337, attributes := #[] }, { accessFlags := 0, nameIndex := 494, descriptorIndex := 142, attributes := #[] }, { accessFlags := 8, nameIndex := 501, descriptorIndex := 391, attributes := #[] }] 49 2 #[1106, 1108, 575, 1110, 1112] #[{ accessFlags := 18, nameIndex := 13, descriptorIndex := 14, attributes := #[] }, { accessFlags := 18, nameIndex := 17, descriptorIndex := 18, attributes := #[] }, { accessFlags := 2, nameIndex := 21, descriptorIndex := 22, attributes := #[] }, { accessFlags := 2, nameIndex := 25, descriptorIndex := 26, attributes := #[] }, { accessFlags := 26, nameIndex := 1116, descriptorIndex := 1117, attributes := #[] }, { accessFlags := 24, nameIndex := 40, descriptorIndex := 26, attributes := #[] }, { accessFlags := 26, nameIndex := 1101, descriptorIndex := 1102, attributes := #[] }, { accessFlags := 26, nameIndex := 1121, descriptorIndex := 1122, attributes := #[] }, { accessFlags := 25, nameIndex := 599, descriptorIndex := 600, attributes := #[] }, { accessFlags := 24, nameIndex := 1125, descriptorIndex := 18, attributes := #[] }, { accessFlags := 24, nameIndex := 1127, descriptorIndex := 18, attributes := #[] }])
  fields := #[{ name := "value", type := (.array .byte), accessFlags := 18, slot := 0, constantValue := 0 }, { name := "coder", type := .byte, accessFlags := 18, slot := 1, constantValue := 0 }, { name := "hash", type := .int, accessFlags := 2, slot := 2, constantValue := 0 }, { name := "hashIsZero", type := .boolean, accessFlags := 2, slot := 3, constantValue := 0 }, { name := "serialVersionUID", type := .long, accessFlags := 26, slot := 0, constantValue := 0 }, { name := "COMPACT_STRINGS", type := .boolean, accessFlags := 24, slot := 1, constantValue := 0 }, { name := "serialPersistentFields", type := (.array (.object "java/io/ObjectStreamField")), accessFlags := 26, slot := 2, constantValue := 0 }, { name := "REPL", type := .char, accessFlags := 26, slot := 3, constantValue := 0 }, { name := "CASE_INSENSITIVE_ORDER", type := (.object "java/util/Comparator"), accessFlags := 25, slot := 4, constantValue := 0 }, { name := "LATIN1", type := .byte, accessFlags := 24, slot := 5, constantValue := 0 }, { name := "UTF16", type := .byte, accessFlags := 24, slot := 6, constantValue := 0 }]
  methods := #[k7m0, k7m1, k7m2, k7m3, k7m4, k7m5]
  instanceTypes := #[(.array .byte), .byte, .int, .boolean]
  staticTypes := #[.long, .boolean, (.array (.object "java/io/ObjectStreamField")), .char, (.object "java/util/Comparator"), .byte, .byte]
  resolved := Array.replicate 1451 none
  statics := some 0 }

def pool8 : Array CpInfo := pool [(1, .class_ 2), (0, u "java/lang/String"), (1, .class_ 6), (1, u "java/lang/Object"), (0, u "<init>"), (0, u "()V"), (0, .methodref 1 10), (0, .nameAndType 11 12), (0, u "checkIndex"), (0, u "(II)V"), (1, .class_ 16), (1, u "java/lang/StringLatin1"), (36, u "([BI)C"), (67, u "$assertionsDisabled"), (0, u "Z"), (98, .class_ 223), (1, u "java/lang/StringLatin1$LinesSpliterator"), (28, u "charAt"), (137, .class_ 391), (0, u "java/lang/StringLatin1$CharsSpliterator")] 3

def k8m0 : Method := { name := "<init>", desc := "()V", sig := { parameters := [], returnType := none }, accessFlags := 0, code := none }
def k8c1 : Code := { maxStack := 2, maxLocals := 2, code := jdk_43_method_2_code, exceptionTable := #[], attributes := #[] }
def k8m1 : Method := { name := "charAt", desc := "([BI)C", sig := { parameters := [(.array .byte), .int], returnType := some .char }, accessFlags := 9, code := some k8c1 }
/-- java/lang/StringLatin1 -/
def k8 : Class := { plain "java/lang/StringLatin1" (some 0) with
  accessFlags := 48
  interfaces := #[]
  cf := some (fileOf pool8 14 #[.nestMembers #[390, 221]] #[{ accessFlags := 0, nameIndex := 7, descriptorIndex := 8, attributes := #[] }, { accessFlags := 9, nameIndex := 252, descriptorIndex := 53, attributes := #[] }] 48 4 #[] #[{ accessFlags := 4120, nameIndex := 121, descriptorIndex := 122, attributes := #[] }])
  fields := #[{ name := "$assertionsDisabled", type := .boolean, accessFlags := 4120, slot := 0, constantValue := 0 }]
  methods := #[k8m0, k8m1]
  instanceTypes := #[]
  staticTypes := #[.boolean]
  resolved := Array.replicate 395 none
  statics := none }

def pool9 : Array CpInfo := pool [(2, .class_ 4), (1, u "java/lang/Object"), (0, u "<init>"), (0, u "()V"), (17, .class_ 26), (1, u "jdk/internal/util/Preconditions"), (6, u "checkIndex"), (21, .class_ 56), (0, u "jdk/internal/util/Preconditions$4"), (57, .class_ 115), (0, u "jdk/internal/util/Preconditions$1"), (7, u "SIOOBE_FORMATTER"), (0, u "Ljava/util/function/BiFunction;"), (0, .class_ 126), (0, u "jdk/internal/util/Preconditions$2"), (3, u "AIOOBE_FORMATTER"), (0, .class_ 132), (0, u "jdk/internal/util/Preconditions$3"), (3, u "IOOBE_FORMATTER"), (41, u "(IILjava/util/function/BiFunction;)I")] 15

def k9m0 : Method := { name := "<init>", desc := "()V", sig := { parameters := [], returnType := none }, accessFlags := 1, code := none }
def k9c1 : Code := { maxStack := 3, maxLocals := 3, code := jdk_41_method_11_code, exceptionTable := #[], attributes := #[] }
def k9m1 : Method := { name := "checkIndex", desc := "(IILjava/util/function/BiFunction;)I", sig := { parameters := [.int, .int, (.object "java/util/function/BiFunction")], returnType := some .int }, accessFlags := 9, code := some k9c1 }
/-- jdk/internal/util/Preconditions -/
def k9 : Class := { plain "jdk/internal/util/Preconditions" (some 0) with
  accessFlags := 33
  interfaces := #[]
  cf := some (fileOf pool9 24 #[.nestMembers #[55, 131, 125, 114]] #[{ accessFlags := 1, nameIndex := 5, descriptorIndex := 6, attributes := #[] }, { accessFlags := 9, nameIndex := 33, descriptorIndex := 178, attributes := #[] }] 33 2 #[] #[{ accessFlags := 25, nameIndex := 123, descriptorIndex := 124, attributes := #[] }, { accessFlags := 25, nameIndex := 130, descriptorIndex := 124, attributes := #[] }, { accessFlags := 25, nameIndex := 136, descriptorIndex := 124, attributes := #[] }])
  fields := #[{ name := "SIOOBE_FORMATTER", type := (.object "java/util/function/BiFunction"), accessFlags := 25, slot := 0, constantValue := 0 }, { name := "AIOOBE_FORMATTER", type := (.object "java/util/function/BiFunction"), accessFlags := 25, slot := 1, constantValue := 0 }, { name := "IOOBE_FORMATTER", type := (.object "java/util/function/BiFunction"), accessFlags := 25, slot := 2, constantValue := 0 }]
  methods := #[k9m0, k9m1]
  instanceTypes := #[]
  staticTypes := #[(.object "java/util/function/BiFunction"), (.object "java/util/function/BiFunction"), (.object "java/util/function/BiFunction")]
  resolved := Array.replicate 194 none
  statics := some 1 }

def pool10 : Array CpInfo := pool [(2, .class_ 4), (1, u "java/lang/Object"), (0, u "<init>"), (0, u "()V"), (4, .class_ 13), (1, u "com/example/tweak_tags/tweaktags/GeneralEntities"), (0, u "byName"), (0, u "Ljava/util/Map;"), (5, u "byIndex"), (0, u "Ljava/util/List;"), (2, u "complete"), (0, u "Z"), (5, u "lookup"), (0, u "Lcom/example/tweak_tags/tweaktags/NameKey;"), (25, .class_ 60), (0, u "com/example/tweak_tags/tweaktags/GeneralEntities$Entity"), (44, u "predefined"), (0, u "([BII)I")] 5

def k10m0 : Method := { name := "<init>", desc := "()V", sig := { parameters := [], returnType := none }, accessFlags := 0, code := none }
def k10c1 : Code := { maxStack := 3, maxLocals := 3, code := prog_55_method_10_code, exceptionTable := #[], attributes := #[] }
def k10m1 : Method := { name := "predefined", desc := "([BII)I", sig := { parameters := [(.array .byte), .int, .int], returnType := some .int }, accessFlags := 8, code := some k10c1 }
/-- com/example/tweak_tags/tweaktags/GeneralEntities -/
def k10 : Class := { plain "com/example/tweak_tags/tweaktags/GeneralEntities" (some 0) with
  accessFlags := 48
  interfaces := #[]
  cf := some (fileOf pool10 11 #[.nestMembers #[59]] #[{ accessFlags := 0, nameIndex := 5, descriptorIndex := 6, attributes := #[] }, { accessFlags := 8, nameIndex := 105, descriptorIndex := 106, attributes := #[] }] 48 2 #[] #[{ accessFlags := 18, nameIndex := 14, descriptorIndex := 15, attributes := #[] }, { accessFlags := 18, nameIndex := 21, descriptorIndex := 22, attributes := #[] }, { accessFlags := 2, nameIndex := 25, descriptorIndex := 26, attributes := #[] }, { accessFlags := 18, nameIndex := 32, descriptorIndex := 33, attributes := #[] }])
  fields := #[{ name := "byName", type := (.object "java/util/Map"), accessFlags := 18, slot := 0, constantValue := 0 }, { name := "byIndex", type := (.object "java/util/List"), accessFlags := 18, slot := 1, constantValue := 0 }, { name := "complete", type := .boolean, accessFlags := 2, slot := 2, constantValue := 0 }, { name := "lookup", type := (.object "com/example/tweak_tags/tweaktags/NameKey"), accessFlags := 18, slot := 3, constantValue := 0 }]
  methods := #[k10m0, k10m1]
  instanceTypes := #[(.object "java/util/Map"), (.object "java/util/List"), .boolean, (.object "com/example/tweak_tags/tweaktags/NameKey")]
  staticTypes := #[]
  resolved := Array.replicate 112 none
  statics := none }

def pool11 : Array CpInfo := pool [(9, u "<init>"), (6, .class_ 18), (1, u "java/lang/Object"), (0, u "()V"), (1, .class_ 23), (1, u "jdk/internal/util/ArraysSupport"), (0, u "LOG2_ARRAY_LONG_INDEX_SCALE"), (0, u "I"), (2, u "U"), (0, u "Ljdk/internal/misc/Unsafe;"), (8, u "BIG_ENDIAN"), (0, u "Z"), (8, u "LOG2_BYTE_BIT_SIZE"), (4, u "LOG2_ARRAY_INT_INDEX_SCALE"), (54, u "JLA"), (0, u "Ljdk/internal/access/JavaLangAccess;"), (11, u "LOG2_ARRAY_BOOLEAN_INDEX_SCALE"), (9, u "LOG2_ARRAY_BYTE_INDEX_SCALE"), (5, u "LOG2_ARRAY_CHAR_INDEX_SCALE"), (5, u "LOG2_ARRAY_SHORT_INDEX_SCALE"), (18, u "LOG2_ARRAY_FLOAT_INDEX_SCALE"), (24, u "LOG2_ARRAY_DOUBLE_INDEX_SCALE"), (89, u "T_BOOLEAN"), (2, u "T_CHAR"), (1, u "T_FLOAT"), (1, u "T_DOUBLE"), (1, u "T_BYTE"), (1, u "T_SHORT"), (1, u "T_INT"), (1, u "T_LONG"), (1, u "SOFT_MAX_ARRAY_LENGTH")] 83

def k11m0 : Method := { name := "<init>", desc := "()V", sig := { parameters := [], returnType := none }, accessFlags := 2, code := none }
/-- jdk/internal/util/ArraysSupport -/
def k11 : Class := { plain "jdk/internal/util/ArraysSupport" (some 0) with
  accessFlags := 33
  interfaces := #[]
  cf := some (fileOf pool11 21 #[] #[{ accessFlags := 2, nameIndex := 9, descriptorIndex := 19, attributes := #[] }] 33 16 #[] #[{ accessFlags := 24, nameIndex := 28, descriptorIndex := 29, attributes := #[] }, { accessFlags := 26, nameIndex := 38, descriptorIndex := 39, attributes := #[] }, { accessFlags := 25, nameIndex := 121, descriptorIndex := 25, attributes := #[] }, { accessFlags := 25, nameIndex := 131, descriptorIndex := 25, attributes := #[] }, { accessFlags := 25, nameIndex := 137, descriptorIndex := 25, attributes := #[] }, { accessFlags := 25, nameIndex := 143, descriptorIndex := 25, attributes := #[] }, { accessFlags := 25, nameIndex := 53, descriptorIndex := 25, attributes := #[] }, { accessFlags := 25, nameIndex := 24, descriptorIndex := 25, attributes := #[] }, { accessFlags := 25, nameIndex := 162, descriptorIndex := 25, attributes := #[] }, { accessFlags := 25, nameIndex := 187, descriptorIndex := 25, attributes := #[] }, { accessFlags := 26, nameIndex := 48, descriptorIndex := 25, attributes := #[] }, { accessFlags := 25, nameIndex := 277, descriptorIndex := 25, attributes := #[] }, { accessFlags := 25, nameIndex := 280, descriptorIndex := 25, attributes := #[] }, { accessFlags := 25, nameIndex := 282, descriptorIndex := 25, attributes := #[] }, { accessFlags := 25, nameIndex := 284, descriptorIndex := 25, attributes := #[] }, { accessFlags := 25, nameIndex := 286, descriptorIndex := 25, attributes := #[] }, { accessFlags := 25, nameIndex := 288, descriptorIndex := 25, attributes := #[] }, { accessFlags := 25, nameIndex := 290, descriptorIndex := 25, attributes := #[] }, { accessFlags := 25, nameIndex := 292, descriptorIndex := 25, attributes := #[] }, { accessFlags := 26, nameIndex := 108, descriptorIndex := 109, attributes := #[] }, { accessFlags := 25, nameIndex := 294, descriptorIndex := 25, attributes := #[] }])
  fields := #[{ name := "U", type := (.object "jdk/internal/misc/Unsafe"), accessFlags := 24, slot := 0, constantValue := 0 }, { name := "BIG_ENDIAN", type := .boolean, accessFlags := 26, slot := 1, constantValue := 0 }, { name := "LOG2_ARRAY_BOOLEAN_INDEX_SCALE", type := .int, accessFlags := 25, slot := 2, constantValue := 0 }, { name := "LOG2_ARRAY_BYTE_INDEX_SCALE", type := .int, accessFlags := 25, slot := 3, constantValue := 0 }, { name := "LOG2_ARRAY_CHAR_INDEX_SCALE", type := .int, accessFlags := 25, slot := 4, constantValue := 0 }, { name := "LOG2_ARRAY_SHORT_INDEX_SCALE", type := .int, accessFlags := 25, slot := 5, constantValue := 0 }, { name := "LOG2_ARRAY_INT_INDEX_SCALE", type := .int, accessFlags := 25, slot := 6, constantValue := 0 }, { name := "LOG2_ARRAY_LONG_INDEX_SCALE", type := .int, accessFlags := 25, slot := 7, constantValue := 0 }, { name := "LOG2_ARRAY_FLOAT_INDEX_SCALE", type := .int, accessFlags := 25, slot := 8, constantValue := 0 }, { name := "LOG2_ARRAY_DOUBLE_INDEX_SCALE", type := .int, accessFlags := 25, slot := 9, constantValue := 0 }, { name := "LOG2_BYTE_BIT_SIZE", type := .int, accessFlags := 26, slot := 10, constantValue := 0 }, { name := "T_BOOLEAN", type := .int, accessFlags := 25, slot := 11, constantValue := 0 }, { name := "T_CHAR", type := .int, accessFlags := 25, slot := 12, constantValue := 0 }, { name := "T_FLOAT", type := .int, accessFlags := 25, slot := 13, constantValue := 0 }, { name := "T_DOUBLE", type := .int, accessFlags := 25, slot := 14, constantValue := 0 }, { name := "T_BYTE", type := .int, accessFlags := 25, slot := 15, constantValue := 0 }, { name := "T_SHORT", type := .int, accessFlags := 25, slot := 16, constantValue := 0 }, { name := "T_INT", type := .int, accessFlags := 25, slot := 17, constantValue := 0 }, { name := "T_LONG", type := .int, accessFlags := 25, slot := 18, constantValue := 0 }, { name := "JLA", type := (.object "jdk/internal/access/JavaLangAccess"), accessFlags := 26, slot := 19, constantValue := 0 }, { name := "SOFT_MAX_ARRAY_LENGTH", type := .int, accessFlags := 25, slot := 20, constantValue := 0 }]
  methods := #[k11m0]
  instanceTypes := #[]
  staticTypes := #[(.object "jdk/internal/misc/Unsafe"), .boolean, .int, .int, .int, .int, .int, .int, .int, .int, .int, .int, .int, .int, .int, .int, .int, .int, .int, (.object "jdk/internal/access/JavaLangAccess"), .int]
  resolved := Array.replicate 378 none
  statics := none }

def pool12 : Array CpInfo := pool [(1, u "java/lang/Cloneable"), (0, .class_ 1), (0, u "java/lang/Object"), (0, .class_ 3)] 3

/-- java/lang/Cloneable -/
def k12 : Class := { plain "java/lang/Cloneable" (some 0) with
  accessFlags := 1537
  interfaces := #[]
  cf := some (fileOf pool12 2 #[] #[] 1537 4 #[] #[])
  fields := #[]
  methods := #[]
  instanceTypes := #[]
  staticTypes := #[]
  resolved := Array.replicate 8 none
  statics := none }

/-- the primitive byte -/
def k13 : Class := { plain "byte" none with kind := .primitive 'B', accessFlags := 0x411 }
/-- [B -/
def k14 : Class := { plain "[B" (some 0) with kind := .array 13 .byte, interfaces := #[12, 2], accessFlags := 1041 }

/-- the primitive int -/
def k15 : Class := { plain "int" none with kind := .primitive 'I', accessFlags := 0x411 }
/-- [I -/
def k16 : Class := { plain "[I" (some 0) with kind := .array 15 .int, interfaces := #[12, 2], accessFlags := 1041 }

def heap : Heap := #[{ cls := 7, slots := #[.long 0, .int 1, .null, .int 0, .null, .int 0, .int 0], vm := .statics 7 },
  { cls := 9, slots := #[.null, .null, .null], vm := .statics 9 }]
def classes : Array Class := #[k0, k1, k2, k3, k4, k5, k6, k7, k8, k9, k10, k11, k12, k13, k14, k15, k16]
def interned : List (Array UInt16 × Addr) := []
def slotsUsed : Nat := 10
def theMethod : MethodId := ⟨1, 3⟩
def args0 : Array Value := #[.int 5, .int 9, .int 5, .int 7, .int 9, .int 11]
def aboutOver (below : List Frame) : State where
  vm := { classes := classes, interned := interned.toArray }
  heap := heap
  slotsUsed := slotsUsed
  threads := #[{ frames := .invoking theMethod args0 :: below }]
def below0 : List Frame := [.native { method := ⟨0, 0⟩, args := #[] }]
def about1 : State := aboutOver below0
def p0 : Program := .bare "" "" ""
def e0 : Env := launch0.env 0 0 0
theorem w_frames : about1.frames = Frame.invoking theMethod args0 :: below0 := rfl
set_option maxRecDepth 65536 in
theorem w_args : argsFit about1.vm theMethod args0 = true := by decide +kernel
set_option maxRecDepth 65536 in
theorem w_heap : heapFits about1 = true := by decide +kernel
set_option maxRecDepth 65536 in
theorem w_runnable : about1.curStatus? = some .runnable := by decide +kernel
set_option maxRecDepth 65536 in
theorem w_alone : about1.alone = true := by decide +kernel
set_option maxRecDepth 65536 in
theorem w_named : about1.methodNamed? x = some theMethod := by decide +kernel
set_option maxRecDepth 65536 in
theorem w_hears : about1.hears theMethod below0 = true := by decide +kernel
set_option maxRecDepth 65536 in
theorem w_ripe : about1.ripe theMethod args0 below0 = true := by decide +kernel
theorem w_running : about1.status = .running := rfl
set_option maxRecDepth 65536 in
theorem w_room : about1.hasRoom e0.platform room_1 = true :=
  launch0.hasRoom_least _ room_1 (by decide +kernel) (by decide +kernel) (by decide +kernel) (by decide +kernel) (by decide +kernel) (by decide +kernel)
theorem allAtoms_all (ts : List Jvm.Cond) (a : Array Jvm.Value) (st : Jvm.State) : (allAtoms ts).before a st = ts.all (fun c => c.before a st) := by
  induction ts with
  | nil => rfl
  | cons c t ih =>
    show (Jvm.Cond.and c (allAtoms t)).before a st = _
    rw [Jvm.Cond.before_and, ih, List.all_cons]
def words1 : List Jvm.Cond := Jvm.Cond.code x code maxLocals ret :: tables_1
/-- a 'code' word, met by the world's own term for the bytes: nothing is compared byte by byte -/
theorem code_word {y : MethodName} {bytes : ByteArray} {mx : Nat} {rt : Option FieldType} {a : Array Value} {s : State} {m : MethodId} {meth : Method} {c : Code} (h1 : s.methodNamed? y = some m) (h2 : s.vm.method? m = some meth) (h3 : meth.code = some c) (h4 : c.code = bytes)
    (h5 : (c.maxLocals == mx && c.exceptionTable.isEmpty && decide (c.maxStack ≤ mostOperands) && decide (meth.sig.returnType = rt) && !meth.locks && decide (parseMethodDescriptor y.desc = some meth.sig)) = true) : (Jvm.Cond.code y bytes mx rt).before a s = true := by
  simp only [Bool.and_eq_true, beq_iff_eq, Bool.not_eq_true', decide_eq_true_eq] at h5
  obtain ⟨⟨⟨⟨⟨g1, g2⟩, g3⟩, g4⟩, g5⟩, g6⟩ := h5
  simp [Cond.before, Cond.holds, Cond.value, h1, h2, h3, h4, g1, g2, g3, g4, g5, g6]
def isCode : Jvm.Cond → Bool
  | .code _ _ _ _ => true
  | _ => false
theorem all_split {L : List Jvm.Cond} {P : Jvm.Cond → Bool} (h1 : L.all (fun c => isCode c || P c) = true) (h2 : ∀ c ∈ L.filter isCode, P c = true) : L.all P = true := by
  refine List.all_eq_true.mpr fun c hc => ?_
  have h := List.all_eq_true.mp h1 c hc
  rcases Bool.eq_false_or_eq_true (isCode c) with hi | hi
  · exact h2 c (List.mem_filter.mpr ⟨hc, hi⟩)
  · simpa [hi] using h
set_option maxRecDepth 65536 in
theorem w_c0 : (Jvm.Cond.code x code maxLocals ret).before args0 about1 = true := code_word (m := ⟨1, 3⟩) (meth := k1m3) (c := k1c3) (by decide +kernel) rfl rfl rfl (by decide +kernel)
set_option maxRecDepth 65536 in
theorem w_c1 : (Jvm.Cond.code ({ cls := "com/example/tweak_tags/tweaktags/GeneralEntitiesPredefinedPinLaw", name := "pick", desc := "(I)B" } : Jvm.MethodName) method_2_code (2 : Nat) (Option.some Jvm.ClassFile.FieldType.byte)).before args0 about1 = true := code_word (m := ⟨1, 1⟩) (meth := k1m1) (c := k1c1) (by decide +kernel) rfl rfl rfl (by decide +kernel)
set_option maxRecDepth 65536 in
theorem w_c2 : (Jvm.Cond.code ({ cls := "java/lang/String", name := "charAt", desc := "(I)C" } : Jvm.MethodName) jdk_42_method_56_code (2 : Nat) (Option.some Jvm.ClassFile.FieldType.char)).before args0 about1 = true := code_word (m := ⟨7, 2⟩) (meth := k7m2) (c := k7c2) (by decide +kernel) rfl rfl rfl (by decide +kernel)
set_option maxRecDepth 65536 in
theorem w_c3 : (Jvm.Cond.code ({ cls := "java/lang/String", name := "isLatin1", desc := "()Z" } : Jvm.MethodName) jdk_42_method_154_code (1 : Nat) (Option.some Jvm.ClassFile.FieldType.boolean)).before args0 about1 = true := code_word (m := ⟨7, 4⟩) (meth := k7m4) (c := k7c4) (by decide +kernel) rfl rfl rfl (by decide +kernel)
set_option maxRecDepth 65536 in
theorem w_c4 : (Jvm.Cond.code ({ cls := "java/lang/StringLatin1", name := "charAt", desc := "([BI)C" } : Jvm.MethodName) jdk_43_method_2_code (2 : Nat) (Option.some Jvm.ClassFile.FieldType.char)).before args0 about1 = true := code_word (m := ⟨8, 1⟩) (meth := k8m1) (c := k8c1) (by decide +kernel) rfl rfl rfl (by decide +kernel)
set_option maxRecDepth 65536 in
theorem w_c5 : (Jvm.Cond.code ({ cls := "java/lang/String", name := "checkIndex", desc := "(II)V" } : Jvm.MethodName) jdk_42_method_155_code (2 : Nat) (Option.none : Option Jvm.ClassFile.FieldType)).before args0 about1 = true := code_word (m := ⟨7, 5⟩) (meth := k7m5) (c := k7c5) (by decide +kernel) rfl rfl rfl (by decide +kernel)
set_option maxRecDepth 65536 in
theorem w_c6 : (Jvm.Cond.code ({ cls := "jdk/internal/util/Preconditions", name := "checkIndex", desc := "(IILjava/util/function/BiFunction;)I" } : Jvm.MethodName) jdk_41_method_11_code (3 : Nat) (Option.some Jvm.ClassFile.FieldType.int)).before args0 about1 = true := code_word (m := ⟨9, 1⟩) (meth := k9m1) (c := k9c1) (by decide +kernel) rfl rfl rfl (by decide +kernel)
set_option maxRecDepth 65536 in
theorem w_c7 : (Jvm.Cond.code ({ cls := "com/example/tweak_tags/tweaktags/GeneralEntitiesPredefinedPinLaw", name := "is", desc := "([BIILjava/lang/String;)Z" } : Jvm.MethodName) method_3_code (5 : Nat) (Option.some Jvm.ClassFile.FieldType.boolean)).before args0 about1 = true := code_word (m := ⟨1, 2⟩) (meth := k1m2) (c := k1c2) (by decide +kernel) rfl rfl rfl (by decide +kernel)
set_option maxRecDepth 65536 in
theorem w_c8 : (Jvm.Cond.code ({ cls := "java/lang/String", name := "length", desc := "()I" } : Jvm.MethodName) jdk_42_method_54_code (1 : Nat) (Option.some Jvm.ClassFile.FieldType.int)).before args0 about1 = true := code_word (m := ⟨7, 1⟩) (meth := k7m1) (c := k7c1) (by decide +kernel) rfl rfl rfl (by decide +kernel)
set_option maxRecDepth 65536 in
theorem w_c9 : (Jvm.Cond.code ({ cls := "java/lang/String", name := "coder", desc := "()B" } : Jvm.MethodName) jdk_42_method_152_code (1 : Nat) (Option.some Jvm.ClassFile.FieldType.byte)).before args0 about1 = true := code_word (m := ⟨7, 3⟩) (meth := k7m3) (c := k7c3) (by decide +kernel) rfl rfl rfl (by decide +kernel)
set_option maxRecDepth 65536 in
theorem w_c10 : (Jvm.Cond.code ({ cls := "com/example/tweak_tags/tweaktags/GeneralEntities", name := "predefined", desc := "([BII)I" } : Jvm.MethodName) prog_55_method_10_code (3 : Nat) (Option.some Jvm.ClassFile.FieldType.int)).before args0 about1 = true := code_word (m := ⟨10, 1⟩) (meth := k10m1) (c := k10c1) (by decide +kernel) rfl rfl rfl (by decide +kernel)
def codes1 : List Jvm.Cond := [Jvm.Cond.code x code maxLocals ret, Jvm.Cond.code ({ cls := "com/example/tweak_tags/tweaktags/GeneralEntitiesPredefinedPinLaw", name := "pick", desc := "(I)B" } : Jvm.MethodName) method_2_code (2 : Nat) (Option.some Jvm.ClassFile.FieldType.byte), Jvm.Cond.code ({ cls := "java/lang/String", name := "charAt", desc := "(I)C" } : Jvm.MethodName) jdk_42_method_56_code (2 : Nat) (Option.some Jvm.ClassFile.FieldType.char), Jvm.Cond.code ({ cls := "java/lang/String", name := "isLatin1", desc := "()Z" } : Jvm.MethodName) jdk_42_method_154_code (1 : Nat) (Option.some Jvm.ClassFile.FieldType.boolean), Jvm.Cond.code ({ cls := "java/lang/StringLatin1", name := "charAt", desc := "([BI)C" } : Jvm.MethodName) jdk_43_method_2_code (2 : Nat) (Option.some Jvm.ClassFile.FieldType.char), Jvm.Cond.code ({ cls := "java/lang/String", name := "checkIndex", desc := "(II)V" } : Jvm.MethodName) jdk_42_method_155_code (2 : Nat) (Option.none : Option Jvm.ClassFile.FieldType), Jvm.Cond.code ({ cls := "jdk/internal/util/Preconditions", name := "checkIndex", desc := "(IILjava/util/function/BiFunction;)I" } : Jvm.MethodName) jdk_41_method_11_code (3 : Nat) (Option.some Jvm.ClassFile.FieldType.int), Jvm.Cond.code ({ cls := "com/example/tweak_tags/tweaktags/GeneralEntitiesPredefinedPinLaw", name := "is", desc := "([BIILjava/lang/String;)Z" } : Jvm.MethodName) method_3_code (5 : Nat) (Option.some Jvm.ClassFile.FieldType.boolean), Jvm.Cond.code ({ cls := "java/lang/String", name := "length", desc := "()I" } : Jvm.MethodName) jdk_42_method_54_code (1 : Nat) (Option.some Jvm.ClassFile.FieldType.int), Jvm.Cond.code ({ cls := "java/lang/String", name := "coder", desc := "()B" } : Jvm.MethodName) jdk_42_method_152_code (1 : Nat) (Option.some Jvm.ClassFile.FieldType.byte), Jvm.Cond.code ({ cls := "com/example/tweak_tags/tweaktags/GeneralEntities", name := "predefined", desc := "([BII)I" } : Jvm.MethodName) prog_55_method_10_code (3 : Nat) (Option.some Jvm.ClassFile.FieldType.int)]
set_option maxRecDepth 65536 in
theorem codes_eq : words1.filter isCode = codes1 := rfl
theorem w_codes : ∀ c ∈ words1.filter isCode, c.before args0 about1 = true := by
  rw [codes_eq]
  intro c hc
  simp only [codes1, List.mem_cons, List.not_mem_nil, or_false] at hc
  rcases hc with rfl | rfl | rfl | rfl | rfl | rfl | rfl | rfl | rfl | rfl | rfl
  · exact w_c0
  · exact w_c1
  · exact w_c2
  · exact w_c3
  · exact w_c4
  · exact w_c5
  · exact w_c6
  · exact w_c7
  · exact w_c8
  · exact w_c9
  · exact w_c10
set_option maxRecDepth 65536 in
theorem w_t1 : (words1.take 24).all (fun c => isCode c || c.before args0 about1) = true := by decide +kernel
set_option maxRecDepth 65536 in
theorem w_t2 : ((words1.drop 24).take 24).all (fun c => isCode c || c.before args0 about1) = true := by decide +kernel
set_option maxRecDepth 65536 in
theorem w_t3 : ((words1.drop 24).drop 24).all (fun c => isCode c || c.before args0 about1) = true := by decide +kernel
theorem w_tables : (allAtoms (Jvm.Cond.code x code maxLocals ret :: tables_1)).before args0 about1 = true := by
  rw [allAtoms_all]
  show words1.all (fun c => c.before args0 about1) = true
  refine all_split ?_ w_codes
  rw [← List.take_append_drop 24 words1, List.all_append, w_t1, ← List.take_append_drop 24 (words1.drop 24), List.all_append, w_t2, w_t3]
  rfl
set_option maxRecDepth 65536 in
theorem w_rest : rest_1_c.before args0 about1 = true := by decide +kernel
set_option maxRecDepth 65536 in
theorem w_case : (Jvm.Cond.and given_1 narrow_1).before args0 about1 = true := by decide +kernel
set_option maxRecDepth 65536 in
theorem w_consts : constsHeld consts_1 about1 := Jvm.Lit.constsHeldB_iff.mp (by decide +kernel)
theorem w_applies : (headSpec (Jvm.Cond.code x code maxLocals ret :: tables_1) room_1).applies x e0.platform about1 = true :=
  (Spec.applies_iff w_frames).mpr ⟨w_running, w_runnable, w_alone, w_named, w_hears, w_ripe, w_room, w_tables⟩
theorem atStart : AtStart classFile x code maxLocals ret World_1 tables_1 room_1 Calls_1 rest_1 Pre_1 launch0 p0 e0 about1 theMethod args0 below0 :=
  ⟨lists_1, trivial, launch0.admits_env _ _ _, launch0.least_env, fairChoices_fair.cas, fairChoices_fair.clock, w_frames, w_args, w_heap, w_applies, ⟨w_consts, trivial⟩, w_rest, w_case⟩
end start1
theorem witness_1 : WitnessClaimed_1 := ⟨start1.p0, start1.e0, start1.about1, start1.theMethod, start1.args0, start1.below0, start1.atStart⟩
end Jvm.Pilot.@@N@@
