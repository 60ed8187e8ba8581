import JvmDerived
import JvmDerived.Pilot.@@N@@Statement
import JvmDerived.Pilot.@@N@@Code
set_option linter.unusedVariables false
set_option linter.unusedSimpArgs false
namespace Jvm.OwnKit
open Sem ClassFile Op Lib Jvm.Stand Jvm.Free Jvm.LawKit Jvm.RoadKit
theorem irem_mod (x y : Int32) : x - x / y * y = x % y := by
  have hm : (x % y).toInt = x.toInt - x.toInt.tdiv y.toInt * y.toInt := by
    rw [Int32.toInt_mod, Int.tmod_def, Int.mul_comm]
  have hb := Int32.toInt_lt (x % y)
  have hl := Int32.le_toInt (x % y)
  have e : (x - x / y * y).toInt = (x % y).toInt.bmod (2 ^ 32) := by
    rw [hm, Int32.toInt_sub, Int32.toInt_mul, Int32.toInt_div, Int.sub_bmod_bmod, Int.sub_eq_add_neg, Int.sub_eq_add_neg]
    rw [← Int.add_bmod_bmod, ← Int.add_bmod_bmod (y := -(x.toInt.tdiv y.toInt * y.toInt))]
    congr 2
    rw [← Int.neg_mul, ← Int.neg_mul]
    rw [← Int.bmod_mul_bmod, Int.bmod_neg_bmod, Int.bmod_mul_bmod]
  apply Int32.toInt_inj.mp
  rw [e]
  exact Int.bmod_eq_of_le_mul_two (by omega) (by omega)
/-- what a body's end says -/
def Done (s : State) (below : List Frame) (Q : Option Value → Heap → List Loc → Prop) (C S : Nat) (t : State) (o : Outcome) : Prop :=
  t.status = .running ∧ Ended t below o ∧ ∃ v L, o = .returned v ∧ Q v t.heap L ∧ FrameEnd s o t L C S
/-- from here the run ends as asked -/
def Go (tb : Tables) (e : Env) (below : List Frame) (s : State) (Q : Option Value → Heap → List Loc → Prop) (C S : Nat) (A : State) : Prop :=
  ∃ t o, Steps tb e below A t ∧ Done s below Q C S t o
theorem Go.of {tb : Tables} {e : Env} {below : List Frame} {s : State} {Q : Option Value → Heap → List Loc → Prop} {C S : Nat} {A B : State}
    (g : ∀ t, Steps tb e below B t → Steps tb e below A t) (h : Go tb e below s Q C S B) : Go tb e below s Q C S A := by
  obtain ⟨t, o, h1, h2⟩ := h
  exact ⟨t, o, g t h1, h2⟩
theorem Go.push {tb : Tables} {e : Env} {below : List Frame} {s : State} {Q : Option Value → Heap → List Loc → Prop} {C S : Nat} {T : State} {m : MethodId} {pc pc' : Nat} {Ls : Array Slot} {v : Value} {st : List Value} (hp : pc = pc') (h : Go tb e below s Q C S (T.setTop (mkF m pc' Ls (v :: st)))) : Go tb e below s Q C S (T.setTop (mkF m pc Ls ((some v).toList ++ st))) := hp ▸ h
theorem Go.void {tb : Tables} {e : Env} {below : List Frame} {s : State} {Q : Option Value → Heap → List Loc → Prop} {C S : Nat} {T : State} {m : MethodId} {pc pc' : Nat} {Ls : Array Slot} {st : List Value} (hp : pc = pc') (h : Go tb e below s Q C S (T.setTop (mkF m pc' Ls st))) : Go tb e below s Q C S (T.setTop (mkF m pc Ls ((none : Option Value).toList ++ st))) := hp ▸ h
theorem Go.join {tb : Tables} {e : Env} {below : List Frame} {s : State} {Q : Option Value → Heap → List Loc → Prop} {C S : Nat} {A : State} {α : Type} {P : α → Prop} {F : α → State}
    (h1 : ∀ x, P x → Go tb e below s Q C S (F x)) (h2 : (∀ x, P x → Go tb e below s Q C S (F x)) → Go tb e below s Q C S A) : Go tb e below s Q C S A := h2 h1
theorem Go.loop {tb : Tables} {e : Env} {below : List Frame} {s : State} {Q : Option Value → Heap → List Loc → Prop} {C S : Nat} {α : Type} {P : Nat → α → Prop} {F : α → State}
    (h : ∀ k x, P k x → (∀ j y, j < k → P j y → Go tb e below s Q C S (F y)) → Go tb e below s Q C S (F x)) : ∀ k x, P k x → Go tb e below s Q C S (F x) := by
  intro k
  induction k using Nat.strongRecOn with
  | ind k ih => exact fun x hp => h k x hp fun j y hj hy => ih j hj y hy
section Ret
variable {p : Program} {l : Launch} {e : Env} {R : Room} {s : State} {m : MethodId} {args : Array Value} {below : List Frame} {meth : Method} {c : Code} {T : State} {locs : List Loc} {cells slots : Nat} {Q : Option Value → Heap → List Loc → Prop} {C S : Nat}
theorem Go.retV (X : Stand p l e R s m args below meth c T locs cells slots) (hx : p.tables.exec = Jvm.exec) (hlk : meth.locks = false) {pc : Nat} {Ls : Array Slot} {st : List Value} (hret : meth.sig.returnType = none)
    (hd : decode c.code pc = .ok (.return_, 1)) (hs : st = []) (hc : cells ≤ C) (hn : slots ≤ S) (hq : Q none T.heap locs) : Go p.tables e below s Q C S (T.setTop (mkF m pc Ls st)) := by
  subst hs
  obtain ⟨fs, hr, hrun, hended, hW, hsame⟩ := X.leave (v := none) (fun _ => rfl)
  exact ⟨_, _, X.returnOut hx hret hd hr, hrun, hended, _, _, rfl, hq, ⟨_, rfl⟩, hW, hsame.mono hc hn⟩
theorem Go.retW (X : Stand p l e R s m args below meth c T locs cells slots) (hx : p.tables.exec = Jvm.exec) (hlk : meth.locks = false) {pc : Nat} {Ls : Array Slot} {w : Value} {t : FieldType} {i : Instr} {rest : List Value}
    (hret : meth.sig.returnType = some t) (hn : narrow t w = w)
    (hi : (i = .ireturn ∧ (t = .int ∨ t = .boolean ∨ t = .byte ∨ t = .char ∨ t = .short) ∧ ∃ z, w = .int z) ∨ (i = .lreturn ∧ t = .long ∧ ∃ z, w = .long z) ∨ (i = .dreturn ∧ t = .double ∧ ∃ z, w = .double z) ∨ (i = .freturn ∧ t = .float ∧ ∃ z, w = .float z) ∨ (i = .areturn ∧ t.isReference = true ∧ w.isRef = true))
    (hd : decode c.code pc = .ok (i, 1)) (hc : cells ≤ C) (hsl : slots ≤ S) (hq : Q (some w) T.heap locs) : Go p.tables e below s Q C S (T.setTop (mkF m pc Ls (w :: rest))) := by
  obtain ⟨fs, hr, hrun, hended, hW, hsame⟩ := X.leave (v := some w) (fun h => by rw [hret] at h; cases h)
  exact ⟨_, _, retOut X hx hret hn hi hd hr, hrun, hended, _, _, rfl, hq, ⟨_, rfl⟩, hW, hsame.mono hc hsl⟩
theorem Go.retI (X : Stand p l e R s m args below meth c T locs cells slots) (hx : p.tables.exec = Jvm.exec) (hlk : meth.locks = false) {pc : Nat} {Ls : Array Slot} {z : Int32} {rest : List Value}
    (hret : meth.sig.returnType = some .int) (hd : decode c.code pc = .ok (.ireturn, 1)) (hc : cells ≤ C) (hsl : slots ≤ S) (hq : Q (some (.int z)) T.heap locs) : Go p.tables e below s Q C S (T.setTop (mkF m pc Ls (.int z :: rest))) :=
  Go.retW X hx hlk hret rfl (Or.inl ⟨rfl, Or.inl rfl, _, rfl⟩) hd hc hsl hq
theorem Go.retZ (X : Stand p l e R s m args below meth c T locs cells slots) (hx : p.tables.exec = Jvm.exec) (hlk : meth.locks = false) {pc : Nat} {Ls : Array Slot} {z : Int32} {rest : List Value} {t : FieldType}
    (hret : meth.sig.returnType = some t) (ht : t = .boolean ∨ t = .byte ∨ t = .char ∨ t = .short) (hd : decode c.code pc = .ok (.ireturn, 1)) (hc : cells ≤ C) (hsl : slots ≤ S) (hq : Q (some (.int (nar t z))) T.heap locs) : Go p.tables e below s Q C S (T.setTop (mkF m pc Ls (.int z :: rest))) := by
  obtain ⟨fs, hr, hrun, hended, hW, hsame⟩ := X.leave (v := some (.int (nar t z))) (fun h => by rw [hret] at h; cases h)
  exact ⟨_, _, retN X hx hret ht hd hr, hrun, hended, _, _, rfl, hq, ⟨_, rfl⟩, hW, hsame.mono hc hsl⟩
theorem Go.retL (X : Stand p l e R s m args below meth c T locs cells slots) (hx : p.tables.exec = Jvm.exec) (hlk : meth.locks = false) {pc : Nat} {Ls : Array Slot} {z : Int64} {rest : List Value}
    (hret : meth.sig.returnType = some .long) (hd : decode c.code pc = .ok (.lreturn, 1)) (hc : cells ≤ C) (hsl : slots ≤ S) (hq : Q (some (.long z)) T.heap locs) : Go p.tables e below s Q C S (T.setTop (mkF m pc Ls (.long z :: rest))) :=
  Go.retW X hx hlk hret rfl (Or.inr (Or.inl ⟨rfl, rfl, _, rfl⟩)) hd hc hsl hq
theorem Go.retA (X : Stand p l e R s m args below meth c T locs cells slots) (hx : p.tables.exec = Jvm.exec) (hlk : meth.locks = false) {pc : Nat} {Ls : Array Slot} {w : Value} {rest : List Value} {t : FieldType}
    (hret : meth.sig.returnType = some t) (ht : t.isReference = true) (hw : w.isRef = true) (hd : decode c.code pc = .ok (.areturn, 1)) (hc : cells ≤ C) (hsl : slots ≤ S) (hq : Q (some w) T.heap locs) : Go p.tables e below s Q C S (T.setTop (mkF m pc Ls (w :: rest))) :=
  Go.retW X hx hlk hret (by cases t <;> first | rfl | (simp [FieldType.isReference] at ht)) (Or.inr (Or.inr (Or.inr (Or.inr ⟨rfl, ht, hw⟩)))) hd hc hsl hq
end Ret
/-- the contract of a body, by its walk -/
theorem meet {l : Launch} {Z : State} {y : MethodName} {bytes : ByteArray} {maxL : Nat} {ret : Option FieldType} {ws : List Cond} {rm : Room} {as : Array Value} {Ls : Array Slot} {h0 : Heap} {Q : Option Value → Heap → List Loc → Prop}
    (hpl : plainFor y = true) (ef : ∀ m, entryFrame m as maxL = mkF m 0 Ls [])
    (body : ∀ (p : Program) (e : Env) (s : State) (m : MethodId) (below : List Frame) (meth : Method) (c : Code) (T : State), p.tables.exec = Jvm.exec → c.code = bytes → c.maxLocals = maxL → Z.Warmed39 s.vm → s.vm.findClass y.cls = some m.cls → meth.name = y.name →
      meth.sig.returnType = ret → meth.locks = false → Stand p l e rm s m as below meth c T [] 0 0 → T.heap = h0 → Go p.tables e below s Q rm.cells rm.slots (T.setTop (mkF m 0 Ls []))) :
    MetFree l y (head1 (Cond.code y bytes maxL ret :: ws) rm) (fun a U => a = as ∧ Z.Warmed39 U.vm ∧ U.heap = h0) (fun _ _ _ _ _ => True) (fun _ U o U' => ∃ v L, o = .returned v ∧ Q v U'.heap L ∧ FrameEnd U o U' L rm.cells rm.slots) := by
  refine MetFree.of_bodySF hpl hisR ?_
  intro p e s m args below meth c s₁ Bd hml0 hP hK
  obtain ⟨rfl, hZ, hh⟩ := hP
  obtain ⟨t, o, h1, h2, h3, h4⟩ := body p e s m below meth c s₁ Bd.exec Bd.bytes hml0 hZ (findClass_of_methodNamed Bd.named) (name_of_methodNamed Bd.named Bd.method).1 Bd.returns Bd.notSynchronized (Stand.of_body Bd) (by rw [← hh, Bd.state]; rfl)
  exact ⟨t, o, castTop (ef m) h1, h2, h3, h4⟩
/-- what a callee's contract says -/
abbrev Con (l : Launch) (Z : State) (y : MethodName) (bytes : ByteArray) (maxL : Nat) (ret : Option FieldType) (rm : Room) (as : Array Value) (h0 : Heap) (Q : Option Value → Heap → List Loc → Prop) : Prop :=
  MetFree l y (head1 [Cond.code y bytes maxL ret] rm) (fun a U => a = as ∧ Z.Warmed39 U.vm ∧ U.heap = h0) (fun _ _ _ _ _ => True) (fun _ U o U' => ∃ v L, o = .returned v ∧ Q v U'.heap L ∧ FrameEnd U o U' L rm.cells rm.slots)
section Call
variable {p : Program} {l : Launch} {e : Env} {R : Room} {s : State} {m : MethodId} {args : Array Value} {below : List Frame} {meth : Method} {c : Code} {T : State} {locs : List Loc} {cells slots : Nat} {Q : Option Value → Heap → List Loc → Prop} {C S : Nat} {Z : State} {a0 : Array Value} {h : Heap}
theorem Go.callS (X : Stand p l e R s m args below meth c T locs cells slots) (hx : p.tables.exec = Jvm.exec) (hZ : Z.Warmed39 s.vm) {own : String} {index : Nat} {y : MethodName} {bytes : ByteArray} {maxL : Nat} {ret : Option FieldType} {rm : Room} {Q' : Option Value → Heap → List Loc → Prop}
    (hown : s.vm.findClass own = some m.cls) (w1 : (Cond.methodLink own index y).before a0 Z = true) (w2 : (Cond.static y).before a0 Z = true) (w3 : (Cond.initialized y.cls).before a0 Z = true)
    (w4 : (Cond.code y bytes maxL ret).before a0 Z = true) (hy : y.cls ≠ "java/lang/invoke/MethodHandle" ∧ y.cls ≠ "java/lang/invoke/VarHandle")
    (eT : T.heap = h) {pc : Nat} {Ls : Array Slot} {argsL rest st : List Value} {W : Nat} {ps : List FieldType} (hM : Con l Z y bytes maxL ret rm argsL.toArray h Q') (hd : decode c.code pc = .ok (.invokestatic index, 3))
    (hsz : Ls.size = c.maxLocals) (hst : st = argsL.reverse ++ rest) (hpd : parseMethodDescriptor y.desc = some ⟨ps, ret⟩) (hlen : argsL.length = ps.length) (hW : (rest.map fun v => v.category).sum = W)
    (hf : rm.frames + 1 ≤ R.frames) (hl : W + (maxL + 11) + rm.locals ≤ R.locals) (hc : cells + rm.cells ≤ R.cells) (hn : slots + rm.slots ≤ R.slots)
    (k : ∀ (v : Option Value) (T' : State) (L' : List Loc), Stand p l e R s m args below meth c T' (locs ++ L') (cells + rm.cells) (slots + rm.slots) → Q' v T'.heap L' → Go p.tables e below s Q C S (T'.setTop (mkF m (pc + 3) Ls (v.toList ++ rest)))) :
    Go p.tables e below s Q C S (T.setTop (mkF m pc Ls st)) := by
  obtain ⟨v, _, ⟨T', L', kc, kn⟩, -, X', ⟨Lc, hQ, l3, y3, z3⟩, st⟩ := Jvm.LawKit.callS X hx hown (mvT hZ w1) (mvT hZ w2) (mvT hZ w3) (mvT hZ w4) hy (backOf (W := W) hM hZ w4 w3 hf hl) (g := mkF m pc Ls st) rfl hsz (argsL := argsL) (rest := rest) (lenOf hpd hlen) hst (by show 2 * 0 + _ ≤ _; rw [hW]; omega) hd (fun _ _ => ⟨rfl, eT, hc, hn⟩)
  dsimp only [Pt.U, Pt.locs, Pt.cells, Pt.slots] at X' l3 y3 z3 st hQ
  subst l3 y3 z3
  exact Go.of st (k v T' Lc X' hQ)
theorem Go.callI (X : Stand p l e R s m args below meth c T locs cells slots) (hx : p.tables.exec = Jvm.exec) (hZ : Z.Warmed39 s.vm) {own : String} {index : Nat} {y : MethodName} {bytes : ByteArray} {maxL : Nat} {rm : Room} {Q' : Option Value → Heap → List Loc → Prop}
    (hown : s.vm.findClass own = some m.cls) (hy1 : y.name = "<init>") (w1 : (Cond.methodLink own index y).before a0 Z = true) (w2 : (Cond.instanceMethod y).before a0 Z = true) (w3 : (Cond.initialized y.cls).before a0 Z = true)
    (w4 : (Cond.code y bytes maxL none).before a0 Z = true) (hy : y.cls ≠ "java/lang/invoke/MethodHandle" ∧ y.cls ≠ "java/lang/invoke/VarHandle")
    (eT : T.heap = h) {pc : Nat} {Ls : Array Slot} {a : Addr} {argsL rest st : List Value} {W : Nat} {ps : List FieldType} (hM : Con l Z y bytes maxL none rm (.ref a :: argsL).toArray h Q') (hd : decode c.code pc = .ok (.invokespecial index, 3))
    (hsz : Ls.size = c.maxLocals) (hst : st = argsL.reverse ++ .ref a :: rest) (hpd : parseMethodDescriptor y.desc = some ⟨ps, none⟩) (hlen : argsL.length = ps.length) (hW : (rest.map fun v => v.category).sum = W)
    (hf : rm.frames + 1 ≤ R.frames) (hl : W + (maxL + 11) + rm.locals ≤ R.locals) (hc : cells + rm.cells ≤ R.cells) (hn : slots + rm.slots ≤ R.slots)
    (k : ∀ (v : Option Value) (T' : State) (L' : List Loc), Stand p l e R s m args below meth c T' (locs ++ L') (cells + rm.cells) (slots + rm.slots) → Q' v T'.heap L' → Go p.tables e below s Q C S (T'.setTop (mkF m (pc + 3) Ls (v.toList ++ rest)))) :
    Go p.tables e below s Q C S (T.setTop (mkF m pc Ls st)) := by
  obtain ⟨v, _, ⟨T', L', kc, kn⟩, -, X', ⟨Lc, hQ, l3, y3, z3⟩, st⟩ := X.specialBack hx hy1 hown (mvT hZ w1) (mvT hZ w2) (mvT hZ w4) hy (backOf (W := W) hM hZ w4 w3 hf hl) (g := mkF m pc Ls st) rfl hsz (Steps.refl _) (a := a) (argsL := argsL) (rest := rest) (lenOf hpd hlen) hst (by show 2 * 0 + _ ≤ _; rw [hW]; omega) hd (fun _ _ => ⟨rfl, eT, hc, hn⟩)
  dsimp only [Pt.U, Pt.locs, Pt.cells, Pt.slots] at X' l3 y3 z3 st hQ
  subst l3 y3 z3
  exact Go.of (fun _ q => st.trans q) (k v T' Lc X' hQ)
theorem Go.callV (X : Stand p l e R s m args below meth c T locs cells slots) (hx : p.tables.exec = Jvm.exec) (hZ : Z.Warmed39 s.vm) {own K : String} {index : Nat} {y z : MethodName} {bytes : ByteArray} {maxL : Nat} {ret : Option FieldType} {rm : Room} {Q' : Option Value → Heap → List Loc → Prop}
    (hown : s.vm.findClass own = some m.cls) (w1 : (Cond.methodLink own index y).before a0 Z = true) (w2 : (Cond.declares y).before a0 Z = true) (nf : NotFace s y) (w5 : (Cond.selects K y z).before a0 Z = true) (w6 : (Cond.instanceMethod z).before a0 Z = true) (w3 : (Cond.initialized z.cls).before a0 Z = true)
    (w4 : (Cond.code z bytes maxL ret).before a0 Z = true) (hy : y.cls ≠ "java/lang/invoke/MethodHandle" ∧ y.cls ≠ "java/lang/invoke/VarHandle")
    (eT : T.heap = h) {pc : Nat} {Ls : Array Slot} {a : Addr} {argsL rest st : List Value} {W : Nat} {ps : List FieldType} {rt : Option FieldType} (E : Exa Z h a K) (hM : Con l Z z bytes maxL ret rm (.ref a :: argsL).toArray h Q') (hd : decode c.code pc = .ok (.invokevirtual index, 3))
    (hsz : Ls.size = c.maxLocals) (hst : st = argsL.reverse ++ .ref a :: rest) (hpd : parseMethodDescriptor y.desc = some ⟨ps, rt⟩) (hlen : argsL.length = ps.length) (hW : (rest.map fun v => v.category).sum = W)
    (hf : rm.frames + 1 ≤ R.frames) (hl : W + (maxL + 11) + rm.locals ≤ R.locals) (hc : cells + rm.cells ≤ R.cells) (hn : slots + rm.slots ≤ R.slots)
    (k : ∀ (v : Option Value) (T' : State) (L' : List Loc), Stand p l e R s m args below meth c T' (locs ++ L') (cells + rm.cells) (slots + rm.slots) → Q' v T'.heap L' → Go p.tables e below s Q C S (T'.setTop (mkF m (pc + 3) Ls (v.toList ++ rest)))) :
    Go p.tables e below s Q C S (T.setTop (mkF m pc Ls st)) := by
  obtain ⟨cq, kq, qa, qb, qc⟩ := isOf hZ eT E
  obtain ⟨v, _, ⟨T', L', kc, kn⟩, -, X', ⟨Lc, hQ, l3, y3, z3⟩, st⟩ := X.virtualBack hx (y := y) (z := z) hown (mvT hZ w1) (mvT hZ w2) nf (mvT hZ w5) (mvT hZ w6) hy (backOf (W := W) hM hZ w4 w3 hf hl) qa qc (g := mkF m pc Ls st) rfl hsz (Steps.refl _) (argsL := argsL) (rest := rest) (lenOf hpd hlen) hst (by show 2 * 0 + _ ≤ _; rw [hW]; omega) hd (fun _ _ => ⟨rfl, eT, hc, hn⟩)
  dsimp only [Pt.U, Pt.locs, Pt.cells, Pt.slots] at X' l3 y3 z3 st hQ
  subst l3 y3 z3
  exact Go.of (fun _ q => st.trans q) (k v T' Lc X' hQ)
end Call
/-- an array of n places, place i holding f i -/
def ArF (Z : State) (h : Heap) (a : Addr) (ty : FieldType) (n : Nat) (f : Nat → Value) : Prop :=
  ∃ cl : Cell, Arr Z h a cl ty ∧ cl.slots.size = n ∧ n < 2 ^ 31 ∧ (∀ i, i < n → cl.slots[i]? = some (f i)) ∧ ∀ i, i < n → fits ty (f i) = true
def upV (f : Nat → Value) (j : Nat) (v : Value) (i : Nat) : Value := if i = j then v else f i
def upI (f : Nat → Int32) (j : Nat) (v : Int32) (i : Nat) : Int32 := if i = j then v else f i
def upJ (f : Nat → Int64) (j : Nat) (v : Int64) (i : Nat) : Int64 := if i = j then v else f i
def upD (f : Nat → UInt64) (j : Nat) (v : UInt64) (i : Nat) : UInt64 := if i = j then v else f i
section ArF
variable {Z : State} {h h' : Heap} {a b : Addr} {ty : FieldType} {n : Nat} {f : Nat → Value} {sl : Nat} {v : Value} {ws : List Addr}
theorem ArF.lt (F : ArF Z h a ty n f) : a < h.size := by obtain ⟨c, A, -⟩ := F; exact A.lt
theorem ArF.ext (F : ArF Z h a ty n f) (E : Ext h h') : ArF Z h' a ty n f := by obtain ⟨c, A, r⟩ := F; exact ⟨c, A.ext E, r⟩
theorem ArF.other (F : ArF Z h b ty n f) (W : Wr h h' a sl v) (q : b ≠ a) : ArF Z h' b ty n f := by obtain ⟨c, A, r⟩ := F; exact ⟨c, A.other W q, r⟩
theorem ArF.keep (F : ArF Z h a ty n f) (K : Keep h h' ws) (q : a ∉ ws) : ArF Z h' a ty n f := by obtain ⟨c, A, r⟩ := F; exact ⟨c, ⟨K.2.1 a c A.1 q, A.2⟩, r⟩
theorem ArF.len (F : ArF Z h a ty n f) : n < 2 ^ 31 := by obtain ⟨c, A, r1, r2, -⟩ := F; exact r2
theorem ArF.fit (F : ArF Z h a ty n f) {i : Nat} (hi : i < n) : fits ty (f i) = true := by obtain ⟨c, A, r1, r2, r3, r4⟩ := F; exact r4 i hi
theorem ArF.congr {g : Nat → Value} (F : ArF Z h a ty n f) (q : ∀ i, i < n → g i = f i) : ArF Z h a ty n g := by
  obtain ⟨c, A, r1, r2, r3, r4⟩ := F
  exact ⟨c, A, r1, r2, fun i hi => by rw [q i hi]; exact r3 i hi, fun i hi => by rw [q i hi]; exact r4 i hi⟩
theorem ArF.new {k : ClassId} {z : Int32} (A : Arr Z h a (newA k ty z) ty) (hn : ¬ z < 0) (hz : z.toNatClampNeg = n) : ArF Z h a ty n (fun _ => defaultValue ty) := by
  subst hz
  refine ⟨_, A, sz_new _ _ _, (back32 hn).2, fun i hi => ?_, fun i hi => by cases ty <;> rfl⟩
  simp [newA, hi]
theorem ArF.set {x : Nat} (F : ArF Z h a ty n f) (hv : fits ty v = true) (W : Wr h h' a x v) : ArF Z h' a ty n (upV f x v) := by
  obtain ⟨c, A, r1, r2, r3, r4⟩ := F
  refine ⟨_, A.same W, by simp [Cell.setSlot, r1], r2, fun i hi => ?_, fun i hi => ?_⟩
  · by_cases e : i = x
    · subst e; simp [upV, Cell.setSlot, r1, hi]
    · simp only [upV, e, if_false, Cell.setSlot]
      rw [Array.getElem?_setIfInBounds_ne (Ne.symm e)]; exact r3 i hi
  · by_cases e : i = x
    · simp [upV, e, hv]
    · simp only [upV, e, if_false]; exact r4 i hi
theorem ArF.arv (F : ArF Z h a ty n f) (d : Value) : ∃ k, Arv Z h a k ty n.toInt32 ((List.range n).map f) d := by
  obtain ⟨c, A, r1, r2, r3, r4⟩ := F
  have hz : (n.toInt32).toInt = n := len_toInt r2
  have hz0 : (0 : Int32).toInt = 0 := rfl
  have hg : ∀ i, i < n → ((List.range n).map f).getD i d = f i := fun i hi => by simp [List.getD, hi]
  refine ⟨c.cls, c, A, rfl, ?_, by rw [Int32.lt_iff_toInt_lt]; omega, fun i hi => ?_, fun i hi => ?_⟩
  · rw [r1, Int32.toNatClampNeg]; omega
  · rw [r1] at hi; rw [hg i hi]; exact r3 i hi
  · rw [r1] at hi; rw [hg i hi]; exact r4 i hi
theorem arF_of_arv {k : ClassId} {z : Int32} {vs : List Value} {d : Value} (F : Arv Z h a k ty z vs d) : ArF Z h a ty z.toNatClampNeg (fun i => vs.getD i d) := by
  obtain ⟨c, A, -, r2, r3, r4, r5⟩ := F
  exact ⟨c, A, r2, (back32 r3).2, fun i hi => r4 i (by rw [r2]; exact hi), fun i hi => r5 i (by rw [r2]; exact hi)⟩
/-- n places of f from sp on, laid over f' from dp on -/
def cpF (f f' : Nat → Value) (sp dp nn : Nat) (i : Nat) : Value := if dp ≤ i ∧ i < dp + nn then f (sp + (i - dp)) else f' i
def cpT {α : Type} (f f' : Nat → α) (sp dp nn : Nat) (i : Nat) : α := if dp ≤ i ∧ i < dp + nn then f (sp + (i - dp)) else f' i
theorem ArF.cpI {g g' : Nat → Int32} {x y z : Nat} (F : ArF Z h a ty n (cpF (fun i => .int (g i)) (fun i => .int (g' i)) x y z)) : ArF Z h a ty n (fun i => .int (cpT g g' x y z i)) := F.congr fun i _ => by simp only [cpF, cpT]; split <;> rfl
theorem ArF.cpJ {g g' : Nat → Int64} {x y z : Nat} (F : ArF Z h a ty n (cpF (fun i => .long (g i)) (fun i => .long (g' i)) x y z)) : ArF Z h a ty n (fun i => .long (cpT g g' x y z i)) := F.congr fun i _ => by simp only [cpF, cpT]; split <;> rfl
theorem ArF.cpD {g g' : Nat → UInt64} {x y z : Nat} (F : ArF Z h a ty n (cpF (fun i => .double (g i)) (fun i => .double (g' i)) x y z)) : ArF Z h a ty n (fun i => .double (cpT g g' x y z i)) := F.congr fun i _ => by simp only [cpF, cpT]; split <;> rfl
theorem nat_idx {j : Int32} {k : Nat} (hj : j.toInt = (k : Int)) : j.toNatClampNeg = k := by simp only [Int32.toNatClampNeg]; omega
theorem in_idx {j : Int32} {k : Nat} {c : Cell} (hj : j.toInt = (k : Int)) (hk : k < n) (e : c.slots.size = n) : ¬ (j < 0 ∨ c.slots.size ≤ j.toNatClampNeg) := by
  rw [nat_idx hj, e, Int32.lt_iff_toInt_lt]
  have : (0 : Int32).toInt = 0 := rfl
  omega
end ArF
section ArrSteps
variable {p : Program} {l : Launch} {e : Env} {R : Room} {s : State} {m : MethodId} {args : Array Value} {below : List Frame} {meth : Method} {c : Code} {T : State} {locs : List Loc} {cells slots : Nat} {Q : Option Value → Heap → List Loc → Prop} {C S : Nat} {Z : State} {a0 : Array Value} {h : Heap} {a : Addr} {n : Nat} {j : Int32} {pc pc' : Nat} {Ls : Array Slot} {rest : List Value}
theorem Go.alen (X : Stand p l e R s m args below meth c T locs cells slots) (hx : p.tables.exec = Jvm.exec) (hZ : Z.Warmed39 s.vm) (eT : T.heap = h) {ty : FieldType} {f : Nat → Value} (F : ArF Z h a ty n f) {z : Int32} (hz : n.toInt32 = z) (hd : decode c.code pc = .ok (.arraylength, 1)) (hp : pc + 1 = pc')
    (kk : Go p.tables e below s Q C S (T.setTop (mkF m pc' Ls (.int z :: rest)))) : Go p.tables e below s Q C S (T.setTop (mkF m pc Ls (.ref a :: rest))) := by
  subst hp hz
  obtain ⟨cl, A, r1, r2, -⟩ := F
  subst r1
  exact Go.of (fun t q => X.arraylength hx (by rw [eT]; exact A.1) (State.isArrayOf_alike hZ.alike A.2.1) (g := mkF m pc Ls (.ref a :: rest)) rfl rfl hd t q) kk
theorem Go.baload (X : Stand p l e R s m args below meth c T locs cells slots) (hx : p.tables.exec = Jvm.exec) (hZ : Z.Warmed39 s.vm) (eT : T.heap = h) {f : Nat → Int32} (F : ArF Z h a .byte n (fun i => .int (f i))) {k : Nat} (hj : j.toInt = (k : Int)) (hk : k < n) {v : Int32} (hv : f k = v) (hd : decode c.code pc = .ok (.baload, 1)) (hp : pc + 1 = pc')
    (kk : Go p.tables e below s Q C S (T.setTop (mkF m pc' Ls (.int v :: rest)))) : Go p.tables e below s Q C S (T.setTop (mkF m pc Ls (.int j :: .ref a :: rest))) := by
  subst hp hv
  obtain ⟨cl, A, r1, r2, r3, -⟩ := F
  exact Go.of (fun t q => X.baloadBytes hx (j := j) (v := .int (f k)) (by rw [eT]; exact A.1) (State.isArrayOf_alike hZ.alike A.2.1) A.2.2 (in_idx hj hk r1) (by rw [nat_idx hj, r3 _ hk]) (g := mkF m pc Ls (.int j :: .ref a :: rest)) rfl rfl hd t q) kk
theorem Go.caload (X : Stand p l e R s m args below meth c T locs cells slots) (hx : p.tables.exec = Jvm.exec) (hZ : Z.Warmed39 s.vm) (eT : T.heap = h) {f : Nat → Int32} (F : ArF Z h a .char n (fun i => .int (f i))) {k : Nat} (hj : j.toInt = (k : Int)) (hk : k < n) {v : Int32} (hv : f k = v) (hd : decode c.code pc = .ok (.caload, 1)) (hp : pc + 1 = pc')
    (kk : Go p.tables e below s Q C S (T.setTop (mkF m pc' Ls (.int v :: rest)))) : Go p.tables e below s Q C S (T.setTop (mkF m pc Ls (.int j :: .ref a :: rest))) := by
  subst hp hv
  obtain ⟨cl, A, r1, r2, r3, -⟩ := F
  exact Go.of (fun t q => X.caload hx (j := j) (v := .int (f k)) (by rw [eT]; exact A.1) (State.isArrayOf_alike hZ.alike A.2.1) A.2.2 (in_idx hj hk r1) (by rw [nat_idx hj, r3 _ hk]) (g := mkF m pc Ls (.int j :: .ref a :: rest)) rfl rfl hd t q) kk
theorem Go.bastore (X : Stand p l e R s m args below meth c T locs cells slots) (hx : p.tables.exec = Jvm.exec) (hZ : Z.Warmed39 s.vm) (eT : T.heap = h) {f : Nat → Int32} (F : ArF Z h a .byte n (fun i => .int (f i))) {x : Int32} {k : Nat} (hj : j.toInt = (k : Int)) (hk : k < n) (hd : decode c.code pc = .ok (.bastore, 1)) (hp : pc + 1 = pc')
    (kk : ∀ T' h', Stand p l e R s m args below meth c T' (locs ++ [⟨a, k⟩]) cells slots → T'.heap = h' → Wr h h' a k (.int (nar .byte x)) → ArF Z h' a .byte n (fun i => .int (upI f k (nar .byte x) i)) → Go p.tables e below s Q C S (T'.setTop (mkF m pc' Ls rest))) : Go p.tables e below s Q C S (T.setTop (mkF m pc Ls (.int x :: .int j :: .ref a :: rest))) := by
  subst hp
  obtain ⟨cl, A, r1, r2, r3, r4⟩ := F
  obtain ⟨T', h', X', e', W, st⟩ := stB X hx hZ eT A (j := j) (in_idx hj hk r1) (g := mkF m pc Ls (.int x :: .int j :: .ref a :: rest)) rfl rfl hd
  rw [nat_idx hj] at X' W
  exact Go.of st (kk T' h' X' e' W ((ArF.set ⟨cl, A, r1, r2, r3, r4⟩ (fits_nar_byte _) W).congr fun i _ => by simp only [upV, upI]; split <;> rfl))
theorem Go.castore (X : Stand p l e R s m args below meth c T locs cells slots) (hx : p.tables.exec = Jvm.exec) (hZ : Z.Warmed39 s.vm) (eT : T.heap = h) {f : Nat → Int32} (F : ArF Z h a .char n (fun i => .int (f i))) {x : Int32} {k : Nat} (hj : j.toInt = (k : Int)) (hk : k < n) (hd : decode c.code pc = .ok (.castore, 1)) (hp : pc + 1 = pc')
    (kk : ∀ T' h', Stand p l e R s m args below meth c T' (locs ++ [⟨a, k⟩]) cells slots → T'.heap = h' → Wr h h' a k (.int (nar .char x)) → ArF Z h' a .char n (fun i => .int (upI f k (nar .char x) i)) → Go p.tables e below s Q C S (T'.setTop (mkF m pc' Ls rest))) : Go p.tables e below s Q C S (T.setTop (mkF m pc Ls (.int x :: .int j :: .ref a :: rest))) := by
  subst hp
  obtain ⟨cl, A, r1, r2, r3, r4⟩ := F
  obtain ⟨T', h', X', e', W, st⟩ := stC X hx hZ eT A (j := j) (in_idx hj hk r1) (g := mkF m pc Ls (.int x :: .int j :: .ref a :: rest)) rfl rfl hd
  rw [nat_idx hj] at X' W
  exact Go.of st (kk T' h' X' e' W ((ArF.set ⟨cl, A, r1, r2, r3, r4⟩ (fits_nar_char _) W).congr fun i _ => by simp only [upV, upI]; split <;> rfl))
theorem Go.newarr (X : Stand p l e R s m args below meth c T locs cells slots) (hx : p.tables.exec = Jvm.exec) (hZ : Z.Warmed39 s.vm) {aty : ArrayType} {ty : FieldType} (hty : newarray.typeOf aty = ty) (w : (Cond.arrayClass ty).before a0 Z = true) (eT : T.heap = h) {z : Int32} (hn : ¬ z < 0) (hz : z.toNatClampNeg = n) {cap : Nat} (hcap : n ≤ cap) (hb : cap * 8 ≤ 536870912) (hc : cells + 1 ≤ R.cells) (hl : slots + cap ≤ R.slots)
    (hd : decode c.code pc = .ok (.newarray aty, 2)) (hp : pc + 2 = pc')
    (kk : ∀ T' h' b, Stand p l e R s m args below meth c T' locs (cells + 1) (slots + cap) → T'.heap = h' → Ext h h' → b = h.size → ArF Z h' b ty n (fun _ => defaultValue ty) → Go p.tables e below s Q C S (T'.setTop (mkF m pc' Ls (.ref b :: rest)))) : Go p.tables e below s Q C S (T.setTop (mkF m pc Ls (.int z :: rest))) := by
  subst hty hp
  obtain ⟨T', h', cA, X', e', E, A, st⟩ := newP X hx hZ w eT (g := mkF m pc Ls (.int z :: rest)) rfl hd rfl hn (cap := cap) (by omega) hb hc hl
  exact Go.of st (kk T' h' h.size X' e' E rfl (ArF.new A hn hz))
end ArrSteps
section Steps1
variable {p : Program} {l : Launch} {e : Env} {R : Room} {s : State} {m : MethodId} {args : Array Value} {below : List Frame} {meth : Method} {c : Code} {T : State} {locs : List Loc} {cells slots : Nat} {Q : Option Value → Heap → List Loc → Prop} {C S : Nat} {bs : ByteArray} {pc pc' : Nat} {Ls : Array Slot} {st : List Value} {Z : State} {a0 : Array Value} {h : Heap} {own : String}
theorem g_iloadN (X : Stand p l e R s m args below meth c T locs cells slots) (hx : p.tables.exec = Jvm.exec) (hby : c.code = bs) {k : Fin 4} {v : Int32} (hd : decode bs pc = .ok (.iload_n k, 1)) (hp : pc + 1 = pc') (hl : Ls[k.val]? = some (.val (.int v))) (kk : Go p.tables e below s Q C S (T.setTop (mkF m pc' Ls (.int v :: st)))) : Go p.tables e below s Q C S (T.setTop (mkF m pc Ls (st))) := by
  subst hp
  exact Go.of (fun _ q => XS.iloadN X.here hx rfl (hb hby hd) hl q) kk
theorem g_iload (X : Stand p l e R s m args below meth c T locs cells slots) (hx : p.tables.exec = Jvm.exec) (hby : c.code = bs) {k : Nat} {v : Int32} (hd : decode bs pc = .ok (.iload k, 2)) (hp : pc + 2 = pc') (hl : Ls[k]? = some (.val (.int v))) (kk : Go p.tables e below s Q C S (T.setTop (mkF m pc' Ls (.int v :: st)))) : Go p.tables e below s Q C S (T.setTop (mkF m pc Ls (st))) := by
  subst hp
  exact Go.of (fun _ q => XS.iload X.here hx rfl (hb hby hd) hl q) kk
theorem g_istoreN (X : Stand p l e R s m args below meth c T locs cells slots) (hx : p.tables.exec = Jvm.exec) (hby : c.code = bs) {k : Fin 4} {v : Int32} {L' : Array Slot} (hd : decode bs pc = .ok (.istore_n k, 1)) (hp : pc + 1 = pc') (hl : storeLocals Ls k.val (.int v) = some L') (kk : Go p.tables e below s Q C S (T.setTop (mkF m pc' L' (st)))) : Go p.tables e below s Q C S (T.setTop (mkF m pc Ls (.int v :: st))) := by
  subst hp
  exact Go.of (fun _ q => XS.istoreN X.here hx rfl (hb hby hd) rfl hl q) kk
theorem g_istore (X : Stand p l e R s m args below meth c T locs cells slots) (hx : p.tables.exec = Jvm.exec) (hby : c.code = bs) {k : Nat} {v : Int32} {L' : Array Slot} (hd : decode bs pc = .ok (.istore k, 2)) (hp : pc + 2 = pc') (hl : storeLocals Ls k (.int v) = some L') (kk : Go p.tables e below s Q C S (T.setTop (mkF m pc' L' (st)))) : Go p.tables e below s Q C S (T.setTop (mkF m pc Ls (.int v :: st))) := by
  subst hp
  exact Go.of (fun _ q => XS.istore X.here hx rfl (hb hby hd) rfl hl q) kk
theorem g_isub (X : Stand p l e R s m args below meth c T locs cells slots) (hx : p.tables.exec = Jvm.exec) (hby : c.code = bs) {x y z : Int32} (hd : decode bs pc = .ok (.isub, 1)) (hp : pc + 1 = pc') (hz : x - y = z) (kk : Go p.tables e below s Q C S (T.setTop (mkF m pc' Ls (.int z :: st)))) : Go p.tables e below s Q C S (T.setTop (mkF m pc Ls (.int y :: .int x :: st))) := by
  subst hp; subst hz
  exact Go.of (fun _ q => XS.isub X.here hx rfl (hb hby hd) rfl q) kk
theorem g_iand (X : Stand p l e R s m args below meth c T locs cells slots) (hx : p.tables.exec = Jvm.exec) (hby : c.code = bs) {x y z : Int32} (hd : decode bs pc = .ok (.iand, 1)) (hp : pc + 1 = pc') (hz : x &&& y = z) (kk : Go p.tables e below s Q C S (T.setTop (mkF m pc' Ls (.int z :: st)))) : Go p.tables e below s Q C S (T.setTop (mkF m pc Ls (.int y :: .int x :: st))) := by
  subst hp; subst hz
  exact Go.of (fun _ q => XS.iand X.here hx rfl (hb hby hd) rfl q) kk
theorem g_ishr (X : Stand p l e R s m args below meth c T locs cells slots) (hx : p.tables.exec = Jvm.exec) (hby : c.code = bs) {x z : Int32} {y : Int32} (hd : decode bs pc = .ok (.ishr, 1)) (hp : pc + 1 = pc') (hz : x >>> (y &&& 31) = z) (kk : Go p.tables e below s Q C S (T.setTop (mkF m pc' Ls (.int z :: st)))) : Go p.tables e below s Q C S (T.setTop (mkF m pc Ls (.int y :: .int x :: st))) := by
  subst hp; subst hz
  exact Go.of (fun _ q => XS.ishr X.here hx rfl (hb hby hd) rfl q) kk
theorem g_iushr (X : Stand p l e R s m args below meth c T locs cells slots) (hx : p.tables.exec = Jvm.exec) (hby : c.code = bs) {x z : Int32} {y : Int32} (hd : decode bs pc = .ok (.iushr, 1)) (hp : pc + 1 = pc') (hz : (x.toUInt32 >>> (y &&& 31).toUInt32).toInt32 = z) (kk : Go p.tables e below s Q C S (T.setTop (mkF m pc' Ls (.int z :: st)))) : Go p.tables e below s Q C S (T.setTop (mkF m pc Ls (.int y :: .int x :: st))) := by
  subst hp; subst hz
  exact Go.of (fun _ q => XS.iushr X.here hx rfl (hb hby hd) rfl q) kk
theorem g_i2b (X : Stand p l e R s m args below meth c T locs cells slots) (hx : p.tables.exec = Jvm.exec) (hby : c.code = bs) {x : Int32} {z : Int32} (hd : decode bs pc = .ok (.i2b, 1)) (hp : pc + 1 = pc') (hz : x.toInt8.toInt32 = z) (kk : Go p.tables e below s Q C S (T.setTop (mkF m pc' Ls (.int z :: st)))) : Go p.tables e below s Q C S (T.setTop (mkF m pc Ls (.int x :: st))) := by
  subst hp; subst hz
  exact Go.of (fun _ q => XS.i2b X.here hx rfl (hb hby hd) rfl q) kk
theorem g_i2c (X : Stand p l e R s m args below meth c T locs cells slots) (hx : p.tables.exec = Jvm.exec) (hby : c.code = bs) {x : Int32} {z : Int32} (hd : decode bs pc = .ok (.i2c, 1)) (hp : pc + 1 = pc') (hz : x.toUInt32.toUInt16.toUInt32.toInt32 = z) (kk : Go p.tables e below s Q C S (T.setTop (mkF m pc' Ls (.int z :: st)))) : Go p.tables e below s Q C S (T.setTop (mkF m pc Ls (.int x :: st))) := by
  subst hp; subst hz
  exact Go.of (fun _ q => XS.i2c X.here hx rfl (hb hby hd) rfl q) kk
theorem g_aloadN (X : Stand p l e R s m args below meth c T locs cells slots) (hx : p.tables.exec = Jvm.exec) (hby : c.code = bs) {k : Fin 4} {v : Value} (hd : decode bs pc = .ok (.aload_n k, 1)) (hp : pc + 1 = pc') (hl : Ls[k.val]? = some (.val v)) (hr : v.isRef = true) (kk : Go p.tables e below s Q C S (T.setTop (mkF m pc' Ls (v :: st)))) : Go p.tables e below s Q C S (T.setTop (mkF m pc Ls (st))) := by
  subst hp
  exact Go.of (fun _ q => XS.aloadN X.here hx rfl (hb hby hd) hl hr q) kk
theorem g_aload (X : Stand p l e R s m args below meth c T locs cells slots) (hx : p.tables.exec = Jvm.exec) (hby : c.code = bs) {k : Nat} {v : Value} (hd : decode bs pc = .ok (.aload k, 2)) (hp : pc + 2 = pc') (hl : Ls[k]? = some (.val v)) (hr : v.isRef = true) (kk : Go p.tables e below s Q C S (T.setTop (mkF m pc' Ls (v :: st)))) : Go p.tables e below s Q C S (T.setTop (mkF m pc Ls (st))) := by
  subst hp
  exact Go.of (fun _ q => XS.aload X.here hx rfl (hb hby hd) hl hr q) kk
theorem g_astoreN (X : Stand p l e R s m args below meth c T locs cells slots) (hx : p.tables.exec = Jvm.exec) (hby : c.code = bs) {k : Fin 4} {v : Value} {L' : Array Slot} (hd : decode bs pc = .ok (.astore_n k, 1)) (hp : pc + 1 = pc') (hr : v.isRef = true) (hl : storeLocals Ls k.val v = some L') (kk : Go p.tables e below s Q C S (T.setTop (mkF m pc' L' (st)))) : Go p.tables e below s Q C S (T.setTop (mkF m pc Ls (v :: st))) := by
  subst hp
  exact Go.of (fun _ q => XS.astoreN X.here hx rfl (hb hby hd) rfl hr hl q) kk
theorem g_astore (X : Stand p l e R s m args below meth c T locs cells slots) (hx : p.tables.exec = Jvm.exec) (hby : c.code = bs) {k : Nat} {v : Value} {L' : Array Slot} (hd : decode bs pc = .ok (.astore k, 2)) (hp : pc + 2 = pc') (hr : v.isRef = true) (hl : storeLocals Ls k v = some L') (kk : Go p.tables e below s Q C S (T.setTop (mkF m pc' L' (st)))) : Go p.tables e below s Q C S (T.setTop (mkF m pc Ls (v :: st))) := by
  subst hp
  exact Go.of (fun _ q => XS.astore X.here hx rfl (hb hby hd) rfl hr hl q) kk
theorem g_iconst (X : Stand p l e R s m args below meth c T locs cells slots) (hx : p.tables.exec = Jvm.exec) (hby : c.code = bs) {i : Int} {z : Int32} (hd : decode bs pc = .ok (.iconst i, 1)) (hp : pc + 1 = pc') (hz : Int32.ofInt i = z) (kk : Go p.tables e below s Q C S (T.setTop (mkF m pc' Ls (.int z :: st)))) : Go p.tables e below s Q C S (T.setTop (mkF m pc Ls (st))) := by
  subst hp; subst hz
  exact Go.of (fun _ q => XS.iconst X.here hx rfl (hb hby hd) q) kk
theorem g_bipush (X : Stand p l e R s m args below meth c T locs cells slots) (hx : p.tables.exec = Jvm.exec) (hby : c.code = bs) {i : Int} {z : Int32} (hd : decode bs pc = .ok (.bipush i, 2)) (hp : pc + 2 = pc') (hz : (Int8.ofInt i).toInt32 = z) (kk : Go p.tables e below s Q C S (T.setTop (mkF m pc' Ls (.int z :: st)))) : Go p.tables e below s Q C S (T.setTop (mkF m pc Ls (st))) := by
  subst hp; subst hz
  exact Go.of (fun _ q => XS.bipush X.here hx rfl (hb hby hd) q) kk
theorem g_sipush (X : Stand p l e R s m args below meth c T locs cells slots) (hx : p.tables.exec = Jvm.exec) (hby : c.code = bs) {i : Int} {z : Int32} (hd : decode bs pc = .ok (.sipush i, 3)) (hp : pc + 3 = pc') (hz : (Int16.ofInt i).toInt32 = z) (kk : Go p.tables e below s Q C S (T.setTop (mkF m pc' Ls (.int z :: st)))) : Go p.tables e below s Q C S (T.setTop (mkF m pc Ls (st))) := by
  subst hp; subst hz
  exact Go.of (fun _ q => XS.sipush X.here hx rfl (hb hby hd) q) kk
theorem g_aconst_null (X : Stand p l e R s m args below meth c T locs cells slots) (hx : p.tables.exec = Jvm.exec) (hby : c.code = bs)  (hd : decode bs pc = .ok (.aconst_null, 1)) (hp : pc + 1 = pc')  (kk : Go p.tables e below s Q C S (T.setTop (mkF m pc' Ls (.null :: st)))) : Go p.tables e below s Q C S (T.setTop (mkF m pc Ls (st))) := by
  subst hp
  exact Go.of (fun _ q => XS.aconstNull X.here hx rfl (hb hby hd) q) kk
theorem g_iinc (X : Stand p l e R s m args below meth c T locs cells slots) (hx : p.tables.exec = Jvm.exec) (hby : c.code = bs) {k : Nat} {i : Int} {x : Int32} {L' : Array Slot} (hd : decode bs pc = .ok (.iinc k i, 3)) (hp : pc + 3 = pc') (hl : Ls[k]? = some (.val (.int x))) (hl' : storeLocals Ls k (.int (x + Int32.ofInt i)) = some L') (kk : Go p.tables e below s Q C S (T.setTop (mkF m pc' L' (st)))) : Go p.tables e below s Q C S (T.setTop (mkF m pc Ls (st))) := by
  subst hp
  exact Go.of (fun _ q => XS.iinc X.here hx rfl (hb hby hd) hl hl' q) kk
theorem g_dup (X : Stand p l e R s m args below meth c T locs cells slots) (hx : p.tables.exec = Jvm.exec) (hby : c.code = bs) {v : Value} (hd : decode bs pc = .ok (.dup, 1)) (hp : pc + 1 = pc') (hc : v.category = 1) (kk : Go p.tables e below s Q C S (T.setTop (mkF m pc' Ls (v :: v :: st)))) : Go p.tables e below s Q C S (T.setTop (mkF m pc Ls (v :: st))) := by
  subst hp
  exact Go.of (fun _ q => XS.dup X.here hx rfl (hb hby hd) rfl hc q) kk
theorem g_pop (X : Stand p l e R s m args below meth c T locs cells slots) (hx : p.tables.exec = Jvm.exec) (hby : c.code = bs) {v : Value} (hd : decode bs pc = .ok (.pop, 1)) (hp : pc + 1 = pc') (hc : v.category = 1) (kk : Go p.tables e below s Q C S (T.setTop (mkF m pc' Ls (st)))) : Go p.tables e below s Q C S (T.setTop (mkF m pc Ls (v :: st))) := by
  subst hp
  exact Go.of (fun _ q => XS.pop X.here hx rfl (hb hby hd) rfl hc q) kk
theorem g_goto (X : Stand p l e R s m args below meth c T locs cells slots) (hx : p.tables.exec = Jvm.exec) (hby : c.code = bs) {o : Int} (hd : decode bs pc = .ok (.goto o, 3)) (h0 : 0 ≤ (pc : Int) + o) (hp : ((pc : Int) + o).toNat = pc') (kk : Go p.tables e below s Q C S (T.setTop (mkF m pc' Ls st))) : Go p.tables e below s Q C S (T.setTop (mkF m pc Ls st)) :=
  Go.of (fun _ q => XS.goto X.here hx rfl (pc0 := pc) (pc' := pc') rfl (hb hby hd) h0 hp q) kk
theorem g_ifYes (X : Stand p l e R s m args below meth c T locs cells slots) (hx : p.tables.exec = Jvm.exec) (hby : c.code = bs) {cd : ClassFile.Cond} {x : Int32} {o : Int} (hd : decode bs pc = .ok (.ifCond cd o, 3)) (hc : if_icmp.holds cd x 0 = true) (h0 : 0 ≤ (pc : Int) + o) (hp : ((pc : Int) + o).toNat = pc') (kk : Go p.tables e below s Q C S (T.setTop (mkF m pc' Ls st))) : Go p.tables e below s Q C S (T.setTop (mkF m pc Ls (.int x :: st))) :=
  Go.of (fun _ q => XS.ifYes X.here hx rfl (pc0 := pc) (pc' := pc') rfl (hb hby hd) rfl ((if0 _ _).trans hc) h0 hp q) kk
theorem g_ifNo (X : Stand p l e R s m args below meth c T locs cells slots) (hx : p.tables.exec = Jvm.exec) (hby : c.code = bs) {cd : ClassFile.Cond} {x : Int32} {o : Int} (hd : decode bs pc = .ok (.ifCond cd o, 3)) (hc : if_icmp.holds cd x 0 = false) (hp : pc + 3 = pc') (kk : Go p.tables e below s Q C S (T.setTop (mkF m pc' Ls st))) : Go p.tables e below s Q C S (T.setTop (mkF m pc Ls (.int x :: st))) := by
  subst hp
  exact Go.of (fun _ q => XS.ifNo X.here hx rfl (hb hby hd) rfl ((if0 _ _).trans hc) q) kk
theorem g_icmpYes (X : Stand p l e R s m args below meth c T locs cells slots) (hx : p.tables.exec = Jvm.exec) (hby : c.code = bs) {cd : ClassFile.Cond} {x y : Int32} {o : Int} (hd : decode bs pc = .ok (.if_icmp cd o, 3)) (hc : if_icmp.holds cd x y = true) (h0 : 0 ≤ (pc : Int) + o) (hp : ((pc : Int) + o).toNat = pc') (kk : Go p.tables e below s Q C S (T.setTop (mkF m pc' Ls st))) : Go p.tables e below s Q C S (T.setTop (mkF m pc Ls (.int y :: .int x :: st))) :=
  Go.of (fun _ q => XS.icmpYes X.here hx rfl (pc0 := pc) (pc' := pc') rfl (hb hby hd) rfl hc h0 hp q) kk
theorem g_icmpNo (X : Stand p l e R s m args below meth c T locs cells slots) (hx : p.tables.exec = Jvm.exec) (hby : c.code = bs) {cd : ClassFile.Cond} {x y : Int32} {o : Int} (hd : decode bs pc = .ok (.if_icmp cd o, 3)) (hc : if_icmp.holds cd x y = false) (hp : pc + 3 = pc') (kk : Go p.tables e below s Q C S (T.setTop (mkF m pc' Ls st))) : Go p.tables e below s Q C S (T.setTop (mkF m pc Ls (.int y :: .int x :: st))) := by
  subst hp
  exact Go.of (fun _ q => XS.icmpNo X.here hx rfl (hb hby hd) rfl hc q) kk
theorem g_getf (X : Stand p l e R s m args below meth c T locs cells slots) (hx : p.tables.exec = Jvm.exec) (hby : c.code = bs) (hZ : Z.Warmed39 s.vm) {R0 O n d host : String} {i : Nat} (hown : s.vm.findClass own = some m.cls) (w : (Cond.fieldLink own i R0 n d).before a0 Z = true ∨ (Cond.fieldLinkNest own i R0 n d host).before a0 Z = true) (via : Via Z R0 O n d) (eT : T.heap = h) {a : Addr} {v : Value} (F : Fld Z h a O n d v) (hd : decode bs pc = .ok (.getfield i, 3)) (hp : pc + 3 = pc') (kk : ∀ T', Stand p l e R s m args below meth c T' locs cells slots → T'.heap = h → Go p.tables e below s Q C S (T'.setTop (mkF m pc' Ls (v :: st)))) : Go p.tables e below s Q C S (T.setTop (mkF m pc Ls (.ref a :: st))) := by
  subst hp
  obtain ⟨T', X', e', q⟩ := getF X hx hZ hown w via eT F (g := mkF m pc Ls (.ref a :: st)) rfl rfl (hb hby hd)
  exact Go.of q (kk T' X' e')
theorem g_putf (X : Stand p l e R s m args below meth c T locs cells slots) (hx : p.tables.exec = Jvm.exec) (hby : c.code = bs) (hZ : Z.Warmed39 s.vm) {R0 O n d host : String} {i : Nat} (hown : s.vm.findClass own = some m.cls) (w : (Cond.fieldLink own i R0 n d).before a0 Z = true ∨ (Cond.fieldLinkNest own i R0 n d host).before a0 Z = true) (via : Via Z R0 O n d) (eT : T.heap = h) {a : Addr} {v old : Value} {K : String} {kk' : Nat} {ty : FieldType} (F : Fld Z h a O n d old) (E : Exa Z h a K) (L : (Cond.lays K O n d).before a0 Z = true ∨ ((Cond.laysFinal K O n d).before a0 Z = true ∧ own = O ∧ meth.name = "<init>")) (wi : (Cond.instantiable K kk').before a0 Z = true) (hty : parseFieldDescriptor d = some ty) (hn : narrow ty v = v) (hf : fits ty v = true) (hd : decode bs pc = .ok (.putfield i, 3)) (hp : pc + 3 = pc')
    (kk : ∀ T' h', Stand p l e R s m args below meth c T' (locs ++ [⟨a, Jvm.RoadKit.slotOf Z O n d⟩]) cells slots → T'.heap = h' → Wr h h' a (Jvm.RoadKit.slotOf Z O n d) v → Fld Z h' a O n d v → Go p.tables e below s Q C S (T'.setTop (mkF m pc' Ls st))) : Go p.tables e below s Q C S (T.setTop (mkF m pc Ls (v :: .ref a :: st))) := by
  subst hp
  obtain ⟨T', h', X', e', W, q⟩ := putF X hx hZ hown w via eT F E L wi hty hn hf (g := mkF m pc Ls (v :: .ref a :: st)) rfl rfl (hb hby hd)
  exact Go.of q (kk T' h' X' e' W (F.same W))
theorem g_new (X : Stand p l e R s m args below meth c T locs cells slots) (hx : p.tables.exec = Jvm.exec) (hby : c.code = bs) (hZ : Z.Warmed39 s.vm) {K : String} {i n : Nat} (hown : s.vm.findClass own = some m.cls) (w : (Cond.classLink own i K).before a0 Z = true) (wi : (Cond.instantiable K n).before a0 Z = true) (wz : (Cond.initialized K).before a0 Z = true) (eT : T.heap = h) (hd : decode bs pc = .ok (.new i, 3)) (hp : pc + 3 = pc') (hc : cells + 1 ≤ R.cells) (hl : slots + n ≤ R.slots)
    (kk : ∀ T' h' b, Stand p l e R s m args below meth c T' locs (cells + 1) (slots + n) → T'.heap = h' → Ext h h' → b = h.size → Exa Z h' b K → (∀ {O nm d : String} {ty : FieldType}, Laid Z a0 K O nm d → parseFieldDescriptor d = some ty → Fld Z h' b O nm d (defaultValue ty)) → Go p.tables e below s Q C S (T'.setTop (mkF m pc' Ls (.ref b :: st)))) : Go p.tables e below s Q C S (T.setTop (mkF m pc Ls st)) := by
  subst hp
  obtain ⟨T', h', X', e', E, A, D, -, q⟩ := newO X hx hZ hown w wi wz eT (g := mkF m pc Ls st) rfl (hb hby hd) hc hl
  exact Go.of q (kk T' h' h.size X' e' E rfl A D)
theorem g_init (X : Stand p l e R s m args below meth c T locs cells slots) (hx : p.tables.exec = Jvm.exec) (hby : c.code = bs) (hZ : Z.Warmed39 s.vm) {i : Nat} (hown : s.vm.findClass own = some m.cls) (w1 : (Cond.methodLink own i Lib.objectInit).before a0 Z = true) (w2 : (Cond.instanceMethod Lib.objectInit).before a0 Z = true) (w3 : (Cond.code Lib.objectInit ⟨#[0xb1]⟩ 1 none).before a0 Z = true) (eT : T.heap = h) {a : Addr} {W : Nat} (hsz : Ls.size = c.maxLocals) (hd : decode bs pc = .ok (.invokespecial i, 3)) (hp : pc + 3 = pc') (hf : 1 ≤ R.frames) (hW : (st.map fun v => v.category).sum = W) (hl : W + 12 ≤ R.locals) (kk : ∀ T', Stand p l e R s m args below meth c T' locs cells slots → T'.heap = h → Go p.tables e below s Q C S (T'.setTop (mkF m pc' Ls st))) : Go p.tables e below s Q C S (T.setTop (mkF m pc Ls (.ref a :: st))) := by
  subst hp
  obtain ⟨T', X', e', q⟩ := initO X hx hZ hown w1 w2 w3 eT (g := mkF m pc Ls (.ref a :: st)) rfl hsz rfl (hb hby hd) hf (W := W) (by show 2 * 0 + _ ≤ _; rw [hW]; omega) hl
  exact Go.of q (kk T' X' e')
end Steps1
end Jvm.OwnKit
namespace Jvm.Pilot.@@N@@
open Jvm Jvm.ClassFile Sem Op Lib Jvm.Free Jvm.Stand Jvm.LawKit Jvm.RoadKit Jvm.OwnKit Bundle Jvm.Pilot.@@N@@.Jvm.D
theorem wi {a0 : Array Value} {Z : State} (hw : ∀ d ∈ tables_1, d.before a0 Z = true) {d : Jvm.Cond} (i : Nat) (h : tables_1[i]? = some d) : d.before a0 Z = true := hw d (List.mem_of_getElem? h)
def own_l (l : List Int32) (i : Nat) : Int32 := l.getD i 0
def own_ch (i : Int32) : Int32 := if (i &&& (3 : Int32)).toInt = 0 then (32 : Int32) else nar .char ((((i.toUInt32 >>> ((2 : Int32) &&& 31).toUInt32).toInt32) &&& (255 : Int32)).toUInt32.toUInt16.toUInt32.toInt32)
theorem own_nc {c : Int32} (h : 0 ≤ c.toInt ∧ c.toInt ≤ 255) : nar .char c = c := by
  have := c_i2c c
  exact Int32.toInt_inj.mp (show c.toUInt32.toUInt16.toUInt32.toInt32.toInt = c.toInt by omega)
theorem own_ch_r (i : Int32) : 0 ≤ (own_ch i).toInt ∧ (own_ch i).toInt ≤ 255 := by
  unfold own_ch
  split
  · decide
  · generalize (i.toUInt32 >>> ((2 : Int32) &&& 31).toUInt32).toInt32 = y
    have h1 := c_mask y (255 : Int32) 8 (by decide) (by decide)
    have h2 : 0 ≤ (y &&& (255 : Int32)).toInt ∧ (y &&& (255 : Int32)).toInt ≤ 255 := by omega
    have h3 : ((y &&& (255 : Int32)).toUInt32.toUInt16.toUInt32.toInt32) = y &&& (255 : Int32) := own_nc h2
    rw [h3, own_nc h2]; exact h2
def own_bad (c : Int32) : Int32 := if c.toInt = 9 ∨ c.toInt = 10 ∨ c.toInt = 13 then 1 else 0
theorem own_bad0 {c : Int32} (h : (own_bad c).toInt = 0) : ¬ c.toInt = 9 ∧ ¬ c.toInt = 10 ∧ ¬ c.toInt = 13 := by
  unfold own_bad at h
  split at h
  · exact absurd h (by decide)
  · omega
def own_sp (c : Int32) : Int32 := if c.toInt = 32 ∨ c.toInt = 9 then 1 else 0
theorem own_sp0 {c : Int32} (h : ¬ c.toInt = 32 ∧ ¬ c.toInt = 9) : (own_sp c).toInt = 0 := by
  unfold own_sp; rw [if_neg (by omega)]; rfl
def own_lo (g : Nat → Int32) (i : Nat) : Int32 := nar .byte ((g i).toInt8.toInt32)
theorem own_loS (gD g : Nat → Int32) (k : Nat) (v : Int32) (hv : g k = v) (h : ∀ i, i < k → gD i = own_lo g i) : ∀ i, i < k + 1 → Jvm.OwnKit.upI gD k (nar .byte (v.toInt8.toInt32)) i = own_lo g i := by
  intro i hi
  unfold Jvm.OwnKit.upI
  by_cases e : i = k
  · subst e; rw [if_pos rfl, own_lo, hv]
  · rw [if_neg e]; exact h i (by omega)
theorem own_lo_v (g : Nat → Int32) (k : Nat) : own_lo g k = (g k).toInt8.toInt32 := by
  show ((g k).toInt8.toInt32).toInt8.toInt32 = _
  rw [Int8.toInt8_toInt32]
theorem own_chr (g : Nat → Int32) (k : Nat) (h : 0 ≤ (g k).toInt ∧ (g k).toInt ≤ 255) : nar .char (((own_lo g k) &&& (255 : Int32)).toUInt32.toUInt16.toUInt32.toInt32) = g k := by
  have e : (own_lo g k) &&& (255 : Int32) = g k := by
    have h1 := c_mask (own_lo g k) (255 : Int32) 8 (by decide) (by decide)
    have h2 := c_i2b (g k)
    rw [own_lo_v] at h1 ⊢
    exact Int32.toInt_inj.mp (by omega)
  rw [e]
  have h3 : ((g k).toUInt32.toUInt16.toUInt32.toInt32) = g k := own_nc h
  rw [h3, own_nc h]
theorem own_lo_ne (g : Nat → Int32) (k : Nat) (c : Int32) (h : 0 ≤ (g k).toInt ∧ (g k).toInt ≤ 255) (hc : 0 ≤ c.toInt ∧ c.toInt ≤ 127) (hn : ¬ (g k).toInt = c.toInt) : ¬ (own_lo g k).toInt = (c.toInt8.toInt32).toInt := by
  rw [own_lo_v]
  have h1 := c_i2b (g k)
  have h2 := c_i2b c
  omega
theorem own_shr0 (x : Int32) : x >>> ((0 : Int32) &&& 31) = x := by
  have : ((0 : Int32) &&& 31) = 0 := by decide
  rw [this]; simp
theorem own_n3 {x : Int32} (h : 0 ≤ x.toInt ∧ x.toInt ≤ 3) (h0 : ¬ x.toInt = 0) : x = 1 ∨ x = 2 ∨ x = 3 := by
  rcases (by omega : x.toInt = 1 ∨ x.toInt = 2 ∨ x.toInt = 3) with q | q | q
  · exact Or.inl (Int32.toInt_inj.mp q)
  · exact Or.inr (Or.inl (Int32.toInt_inj.mp q))
  · exact Or.inr (Or.inr (Int32.toInt_inj.mp q))
theorem own_rg1 {a : Int32} {P : Int32 → Prop} (ha : P a) : ∀ i, i < 1 → P (own_l [a] i) := by
  intro i hi
  have q : i = 0 := by omega
  subst q; exact ha
theorem own_rg2 {a b : Int32} {P : Int32 → Prop} (ha : P a) (hb' : P b) : ∀ i, i < 2 → P (own_l [a, b] i) := by
  intro i hi
  rcases (by omega : i = 0 ∨ i = 1) with rfl | rfl
  · exact ha
  · exact hb'
theorem own_rg3 {a b c : Int32} {P : Int32 → Prop} (ha : P a) (hb' : P b) (hc : P c) : ∀ i, i < 3 → P (own_l [a, b, c] i) := by
  intro i hi
  rcases (by omega : i = 0 ∨ i = 1 ∨ i = 2) with rfl | rfl | rfl
  · exact ha
  · exact hb'
  · exact hc
theorem d1_0 : decode method_2_code 0 = .ok (.iload_n 0, 1) := by decide +kernel
theorem d1_1 : decode method_2_code 1 = .ok (.iconst 3, 1) := by decide +kernel
theorem d1_2 : decode method_2_code 2 = .ok (.iand, 1) := by decide +kernel
theorem d1_3 : decode method_2_code 3 = .ok (.ifCond .ne 6, 3) := by decide +kernel
theorem d1_6 : decode method_2_code 6 = .ok (.bipush 32, 2) := by decide +kernel
theorem d1_8 : decode method_2_code 8 = .ok (.ireturn, 1) := by decide +kernel
theorem d1_9 : decode method_2_code 9 = .ok (.iload_n 0, 1) := by decide +kernel
theorem d1_10 : decode method_2_code 10 = .ok (.iconst 2, 1) := by decide +kernel
theorem d1_11 : decode method_2_code 11 = .ok (.iushr, 1) := by decide +kernel
theorem d1_12 : decode method_2_code 12 = .ok (.sipush 255, 3) := by decide +kernel
theorem d1_15 : decode method_2_code 15 = .ok (.iand, 1) := by decide +kernel
theorem d1_16 : decode method_2_code 16 = .ok (.i2c, 1) := by decide +kernel
theorem d1_17 : decode method_2_code 17 = .ok (.ireturn, 1) := by decide +kernel
theorem ef_rm_ch (m : MethodId) (x0 : Int32) : entryFrame m #[(.int x0)] 1 = mkF m 0 #[.val (.int x0)] [] := by first | (simp [entryFrame, mkF, argsToLocals, Value.category]; done) | rfl
theorem pn_com_example_firstfail_firstfail_formats_PlainTextCheckedTestIdPinLaw : plainName "com/example/firstfail/firstfail/formats/PlainTextCheckedTestIdPinLaw" = true := by first | (simp [plainName, overriddenIn]; done) | decide +kernel
abbrev Q_rm_ch (Z : State) (i1 : Int32) (h0 : Heap) (n0 : Nat) : Option Value → Heap → List Loc → Prop := fun v h L => v = some (.int (own_ch i1)) ∧ Fr n0 L ∧ h = h0
set_option maxRecDepth 65536 in
set_option maxHeartbeats 40000000 in
theorem rm_ch (l : Launch) (Z : State) (a0 : Array Value) (hw : ∀ d ∈ tables_1, d.before a0 Z = true) (i1 : Int32) (h0 : Heap) (n0 : Nat) (Z0 : n0 ≤ h0.size)  :
    Con l Z (⟨"com/example/firstfail/firstfail/formats/PlainTextCheckedTestIdPinLaw", "ch", "(I)C"⟩ : MethodName) method_2_code 1 (some .char) ({ frames := 0, cells := 0, slots := 0, locals := 0 } : Room) #[(.int i1)] h0 (Q_rm_ch Z i1 h0 n0) := by
  refine meet (y := (⟨"com/example/firstfail/firstfail/formats/PlainTextCheckedTestIdPinLaw", "ch", "(I)C"⟩ : MethodName)) (Q := Q_rm_ch Z i1 h0 n0) (plainFor_of_name pn_com_example_firstfail_firstfail_formats_PlainTextCheckedTestIdPinLaw) (fun m => ef_rm_ch m i1) ?_
  intro p e s m below meth c T0 hx hby hml hZ hown hnm hret hlk X0 e0
  have N0 := Fr.nil n0
  refine g_iloadN X0 hx hby d1_0 (pc' := 1) rfl rfl ?_
  refine g_iconst X0 hx hby d1_1 (pc' := 2) rfl (z := (3 : Int32)) rfl ?_
  refine g_iand X0 hx hby d1_2 (pc' := 3) rfl rfl ?_
  by_cases hc3 : (i1 &&& (3 : Int32)).toInt = (0 : Int)
  · refine g_ifNo X0 hx hby d1_3 (pc' := 6) (teq (show (i1 &&& (3 : Int32)) = (0 : Int32) from Int32.toInt_inj.mp hc3)).2 rfl ?_
    refine g_bipush X0 hx hby d1_6 (pc' := 8) rfl (z := (32 : Int32)) rfl ?_
    refine Go.retZ X0 hx hlk hret (by simp) (hb hby d1_8) (by decide) (by decide) ?_
    exact ⟨(by rw [own_ch, if_pos hc3]; try rfl), N0, e0⟩
  · refine g_ifYes X0 hx hby d1_3 (pc' := 9) (feq (show ¬ ((i1 &&& (3 : Int32)) = (0 : Int32)) from fun q => hc3 (congrArg Int32.toInt q))).2 (by decide) (by decide) ?_
    refine g_iloadN X0 hx hby d1_9 (pc' := 10) rfl rfl ?_
    refine g_iconst X0 hx hby d1_10 (pc' := 11) rfl (z := (2 : Int32)) rfl ?_
    refine g_iushr X0 hx hby d1_11 (pc' := 12) rfl rfl ?_
    refine g_sipush X0 hx hby d1_12 (pc' := 15) rfl (z := (255 : Int32)) rfl ?_
    refine g_iand X0 hx hby d1_15 (pc' := 16) rfl rfl ?_
    refine g_i2c X0 hx hby d1_16 (pc' := 17) rfl rfl ?_
    refine Go.retZ X0 hx hlk hret (by simp) (hb hby d1_17) (by decide) (by decide) ?_
    exact ⟨(by rw [own_ch, if_neg hc3]; try rfl), N0, e0⟩
theorem d8_0 : decode method_3_code 0 = .ok (.iload_n 0, 1) := by decide +kernel
theorem d8_1 : decode method_3_code 1 = .ok (.bipush 9, 2) := by decide +kernel
theorem d8_3 : decode method_3_code 3 = .ok (.if_icmp .eq 15, 3) := by decide +kernel
theorem d8_18 : decode method_3_code 18 = .ok (.iconst 1, 1) := by decide +kernel
theorem d8_19 : decode method_3_code 19 = .ok (.goto 4, 3) := by decide +kernel
theorem d8_23 : decode method_3_code 23 = .ok (.ireturn, 1) := by decide +kernel
theorem d8_6 : decode method_3_code 6 = .ok (.iload_n 0, 1) := by decide +kernel
theorem d8_7 : decode method_3_code 7 = .ok (.bipush 10, 2) := by decide +kernel
theorem d8_9 : decode method_3_code 9 = .ok (.if_icmp .eq 9, 3) := by decide +kernel
theorem d8_12 : decode method_3_code 12 = .ok (.iload_n 0, 1) := by decide +kernel
theorem d8_13 : decode method_3_code 13 = .ok (.bipush 13, 2) := by decide +kernel
theorem d8_15 : decode method_3_code 15 = .ok (.if_icmp .ne 7, 3) := by decide +kernel
theorem d8_22 : decode method_3_code 22 = .ok (.iconst 0, 1) := by decide +kernel
theorem ef_rm_bad (m : MethodId) (x0 : Int32) : entryFrame m #[(.int x0)] 1 = mkF m 0 #[.val (.int x0)] [] := by first | (simp [entryFrame, mkF, argsToLocals, Value.category]; done) | rfl
abbrev Q_rm_bad (Z : State) (i1 : Int32) (h0 : Heap) (n0 : Nat) : Option Value → Heap → List Loc → Prop := fun v h L => v = some (.int (own_bad i1)) ∧ Fr n0 L ∧ h = h0
set_option maxRecDepth 65536 in
set_option maxHeartbeats 40000000 in
theorem rm_bad (l : Launch) (Z : State) (a0 : Array Value) (hw : ∀ d ∈ tables_1, d.before a0 Z = true) (i1 : Int32) (h0 : Heap) (n0 : Nat) (Z0 : n0 ≤ h0.size)  :
    Con l Z (⟨"com/example/firstfail/firstfail/formats/PlainTextCheckedTestIdPinLaw", "bad", "(C)Z"⟩ : MethodName) method_3_code 1 (some .boolean) ({ frames := 0, cells := 0, slots := 0, locals := 0 } : Room) #[(.int i1)] h0 (Q_rm_bad Z i1 h0 n0) := by
  refine meet (y := (⟨"com/example/firstfail/firstfail/formats/PlainTextCheckedTestIdPinLaw", "bad", "(C)Z"⟩ : MethodName)) (Q := Q_rm_bad Z i1 h0 n0) (plainFor_of_name pn_com_example_firstfail_firstfail_formats_PlainTextCheckedTestIdPinLaw) (fun m => ef_rm_bad m i1) ?_
  intro p e s m below meth c T0 hx hby hml hZ hown hnm hret hlk X0 e0
  have N0 := Fr.nil n0
  refine g_iloadN X0 hx hby d8_0 (pc' := 1) rfl rfl ?_
  refine g_bipush X0 hx hby d8_1 (pc' := 3) rfl (z := (9 : Int32)) rfl ?_
  by_cases hc3 : i1.toInt = (9 : Int)
  · refine g_icmpYes X0 hx hby d8_3 (pc' := 18) (teq (show i1 = (9 : Int32) from Int32.toInt_inj.mp hc3)).1 (by decide) (by decide) ?_
    refine g_iconst X0 hx hby d8_18 (pc' := 19) rfl (z := (1 : Int32)) rfl ?_
    refine g_goto X0 hx hby d8_19 (pc' := 23) (by decide) (by decide) ?_
    refine Go.retZ X0 hx hlk hret (by simp) (hb hby d8_23) (by decide) (by decide) ?_
    exact ⟨(by rw [own_bad, if_pos (by omega)]; try rfl), N0, e0⟩
  · refine g_icmpNo X0 hx hby d8_3 (pc' := 6) (feq (show ¬ (i1 = (9 : Int32)) from fun q => hc3 (congrArg Int32.toInt q))).1 rfl ?_
    refine g_iloadN X0 hx hby d8_6 (pc' := 7) rfl rfl ?_
    refine g_bipush X0 hx hby d8_7 (pc' := 9) rfl (z := (10 : Int32)) rfl ?_
    by_cases hc9 : i1.toInt = (10 : Int)
    · refine g_icmpYes X0 hx hby d8_9 (pc' := 18) (teq (show i1 = (10 : Int32) from Int32.toInt_inj.mp hc9)).1 (by decide) (by decide) ?_
      refine g_iconst X0 hx hby d8_18 (pc' := 19) rfl (z := (1 : Int32)) rfl ?_
      refine g_goto X0 hx hby d8_19 (pc' := 23) (by decide) (by decide) ?_
      refine Go.retZ X0 hx hlk hret (by simp) (hb hby d8_23) (by decide) (by decide) ?_
      exact ⟨(by rw [own_bad, if_pos (by omega)]; try rfl), N0, e0⟩
    · refine g_icmpNo X0 hx hby d8_9 (pc' := 12) (feq (show ¬ (i1 = (10 : Int32)) from fun q => hc9 (congrArg Int32.toInt q))).1 rfl ?_
      refine g_iloadN X0 hx hby d8_12 (pc' := 13) rfl rfl ?_
      refine g_bipush X0 hx hby d8_13 (pc' := 15) rfl (z := (13 : Int32)) rfl ?_
      by_cases hc15 : i1.toInt = (13 : Int)
      · refine g_icmpNo X0 hx hby d8_15 (pc' := 18) (teq (show i1 = (13 : Int32) from Int32.toInt_inj.mp hc15)).2 rfl ?_
        refine g_iconst X0 hx hby d8_18 (pc' := 19) rfl (z := (1 : Int32)) rfl ?_
        refine g_goto X0 hx hby d8_19 (pc' := 23) (by decide) (by decide) ?_
        refine Go.retZ X0 hx hlk hret (by simp) (hb hby d8_23) (by decide) (by decide) ?_
        exact ⟨(by rw [own_bad, if_pos (by omega)]; try rfl), N0, e0⟩
      · refine g_icmpYes X0 hx hby d8_15 (pc' := 22) (feq (show ¬ (i1 = (13 : Int32)) from fun q => hc15 (congrArg Int32.toInt q))).2 (by decide) (by decide) ?_
        refine g_iconst X0 hx hby d8_22 (pc' := 23) rfl (z := (0 : Int32)) rfl ?_
        refine Go.retZ X0 hx hlk hret (by simp) (hb hby d8_23) (by decide) (by decide) ?_
        exact ⟨(by rw [own_bad, if_neg (by omega)]; try rfl), N0, e0⟩
theorem d18_0 : decode prog_18_method_13_code 0 = .ok (.iload_n 0, 1) := by decide +kernel
theorem d18_1 : decode prog_18_method_13_code 1 = .ok (.bipush 32, 2) := by decide +kernel
theorem d18_3 : decode prog_18_method_13_code 3 = .ok (.if_icmp .eq 9, 3) := by decide +kernel
theorem d18_12 : decode prog_18_method_13_code 12 = .ok (.iconst 1, 1) := by decide +kernel
theorem d18_13 : decode prog_18_method_13_code 13 = .ok (.goto 4, 3) := by decide +kernel
theorem d18_17 : decode prog_18_method_13_code 17 = .ok (.ireturn, 1) := by decide +kernel
theorem d18_6 : decode prog_18_method_13_code 6 = .ok (.iload_n 0, 1) := by decide +kernel
theorem d18_7 : decode prog_18_method_13_code 7 = .ok (.bipush 9, 2) := by decide +kernel
theorem d18_9 : decode prog_18_method_13_code 9 = .ok (.if_icmp .ne 7, 3) := by decide +kernel
theorem d18_16 : decode prog_18_method_13_code 16 = .ok (.iconst 0, 1) := by decide +kernel
theorem ef_rm_sp (m : MethodId) (x0 : Int32) : entryFrame m #[(.int x0)] 1 = mkF m 0 #[.val (.int x0)] [] := by first | (simp [entryFrame, mkF, argsToLocals, Value.category]; done) | rfl
theorem pn_com_example_firstfail_firstfail_formats_PlainText : plainName "com/example/firstfail/firstfail/formats/PlainText" = true := by first | (simp [plainName, overriddenIn]; done) | decide +kernel
abbrev Q_rm_sp (Z : State) (i1 : Int32) (h0 : Heap) (n0 : Nat) : Option Value → Heap → List Loc → Prop := fun v h L => v = some (.int (own_sp i1)) ∧ Fr n0 L ∧ h = h0
set_option maxRecDepth 65536 in
set_option maxHeartbeats 40000000 in
theorem rm_sp (l : Launch) (Z : State) (a0 : Array Value) (hw : ∀ d ∈ tables_1, d.before a0 Z = true) (i1 : Int32) (h0 : Heap) (n0 : Nat) (Z0 : n0 ≤ h0.size)  :
    Con l Z (⟨"com/example/firstfail/firstfail/formats/PlainText", "isSpaceOrTab", "(C)Z"⟩ : MethodName) prog_18_method_13_code 1 (some .boolean) ({ frames := 0, cells := 0, slots := 0, locals := 0 } : Room) #[(.int i1)] h0 (Q_rm_sp Z i1 h0 n0) := by
  refine meet (y := (⟨"com/example/firstfail/firstfail/formats/PlainText", "isSpaceOrTab", "(C)Z"⟩ : MethodName)) (Q := Q_rm_sp Z i1 h0 n0) (plainFor_of_name pn_com_example_firstfail_firstfail_formats_PlainText) (fun m => ef_rm_sp m i1) ?_
  intro p e s m below meth c T0 hx hby hml hZ hown hnm hret hlk X0 e0
  have N0 := Fr.nil n0
  refine g_iloadN X0 hx hby d18_0 (pc' := 1) rfl rfl ?_
  refine g_bipush X0 hx hby d18_1 (pc' := 3) rfl (z := (32 : Int32)) rfl ?_
  by_cases hc3 : i1.toInt = (32 : Int)
  · refine g_icmpYes X0 hx hby d18_3 (pc' := 12) (teq (show i1 = (32 : Int32) from Int32.toInt_inj.mp hc3)).1 (by decide) (by decide) ?_
    refine g_iconst X0 hx hby d18_12 (pc' := 13) rfl (z := (1 : Int32)) rfl ?_
    refine g_goto X0 hx hby d18_13 (pc' := 17) (by decide) (by decide) ?_
    refine Go.retZ X0 hx hlk hret (by simp) (hb hby d18_17) (by decide) (by decide) ?_
    exact ⟨(by rw [own_sp, if_pos (by omega)]; try rfl), N0, e0⟩
  · refine g_icmpNo X0 hx hby d18_3 (pc' := 6) (feq (show ¬ (i1 = (32 : Int32)) from fun q => hc3 (congrArg Int32.toInt q))).1 rfl ?_
    refine g_iloadN X0 hx hby d18_6 (pc' := 7) rfl rfl ?_
    refine g_bipush X0 hx hby d18_7 (pc' := 9) rfl (z := (9 : Int32)) rfl ?_
    by_cases hc9 : i1.toInt = (9 : Int)
    · refine g_icmpNo X0 hx hby d18_9 (pc' := 12) (teq (show i1 = (9 : Int32) from Int32.toInt_inj.mp hc9)).2 rfl ?_
      refine g_iconst X0 hx hby d18_12 (pc' := 13) rfl (z := (1 : Int32)) rfl ?_
      refine g_goto X0 hx hby d18_13 (pc' := 17) (by decide) (by decide) ?_
      refine Go.retZ X0 hx hlk hret (by simp) (hb hby d18_17) (by decide) (by decide) ?_
      exact ⟨(by rw [own_sp, if_pos (by omega)]; try rfl), N0, e0⟩
    · refine g_icmpYes X0 hx hby d18_9 (pc' := 16) (feq (show ¬ (i1 = (9 : Int32)) from fun q => hc9 (congrArg Int32.toInt q))).2 (by decide) (by decide) ?_
      refine g_iconst X0 hx hby d18_16 (pc' := 17) rfl (z := (0 : Int32)) rfl ?_
      refine Go.retZ X0 hx hlk hret (by simp) (hb hby d18_17) (by decide) (by decide) ?_
      exact ⟨(by rw [own_sp, if_neg (by omega)]; try rfl), N0, e0⟩
theorem d6_0 : decode jdk_52_method_21_code 0 = .ok (.iconst 0, 1) := by decide +kernel
theorem d6_1 : decode jdk_52_method_21_code 1 = .ok (.istore 5, 2) := by decide +kernel
theorem d6_3 : decode jdk_52_method_21_code 3 = .ok (.iload 5, 2) := by decide +kernel
theorem d6_5 : decode jdk_52_method_21_code 5 = .ok (.iload 4, 2) := by decide +kernel
theorem d6_7 : decode jdk_52_method_21_code 7 = .ok (.if_icmp .ge 37, 3) := by decide +kernel
theorem d6_10 : decode jdk_52_method_21_code 10 = .ok (.aload_n 0, 1) := by decide +kernel
theorem d6_11 : decode jdk_52_method_21_code 11 = .ok (.iload_n 1, 1) := by decide +kernel
theorem d6_12 : decode jdk_52_method_21_code 12 = .ok (.caload, 1) := by decide +kernel
theorem d6_13 : decode jdk_52_method_21_code 13 = .ok (.istore 6, 2) := by decide +kernel
theorem d6_15 : decode jdk_52_method_21_code 15 = .ok (.iload 6, 2) := by decide +kernel
theorem d6_17 : decode jdk_52_method_21_code 17 = .ok (.sipush 255, 3) := by decide +kernel
theorem d6_20 : decode jdk_52_method_21_code 20 = .ok (.if_icmp .le 6, 3) := by decide +kernel
theorem d6_26 : decode jdk_52_method_21_code 26 = .ok (.aload_n 2, 1) := by decide +kernel
theorem d6_27 : decode jdk_52_method_21_code 27 = .ok (.iload_n 3, 1) := by decide +kernel
theorem d6_28 : decode jdk_52_method_21_code 28 = .ok (.iload 6, 2) := by decide +kernel
theorem d6_30 : decode jdk_52_method_21_code 30 = .ok (.i2b, 1) := by decide +kernel
theorem d6_31 : decode jdk_52_method_21_code 31 = .ok (.bastore, 1) := by decide +kernel
theorem d6_32 : decode jdk_52_method_21_code 32 = .ok (.iinc 1 1, 3) := by decide +kernel
theorem d6_35 : decode jdk_52_method_21_code 35 = .ok (.iinc 3 1, 3) := by decide +kernel
theorem d6_38 : decode jdk_52_method_21_code 38 = .ok (.iinc 5 1, 3) := by decide +kernel
theorem d6_41 : decode jdk_52_method_21_code 41 = .ok (.goto (-38), 3) := by decide +kernel
theorem d6_44 : decode jdk_52_method_21_code 44 = .ok (.iload 4, 2) := by decide +kernel
theorem d6_46 : decode jdk_52_method_21_code 46 = .ok (.ireturn, 1) := by decide +kernel
theorem ef_rm_cmp5 (m : MethodId) (x0 : Addr) (x1 : Int32) (x2 : Addr) (x3 : Int32) (x4 : Int32) : entryFrame m #[(.ref x0), (.int x1), (.ref x2), (.int x3), (.int x4)] 7 = mkF m 0 #[.val (.ref x0), .val (.int x1), .val (.ref x2), .val (.int x3), .val (.int x4), .unset, .unset] [] := by first | (simp [entryFrame, mkF, argsToLocals, Value.category]; done) | rfl
theorem pn_java_lang_StringUTF16 : plainName "java/lang/StringUTF16" = true := by first | (simp [plainName, overriddenIn]; done) | decide +kernel
abbrev Q_rm_cmp5 (Z : State) (x1 : Addr) (i1 : Int32) (x2 : Addr) (i2 : Int32) (i3 : Int32) (n1 : Nat) (gc : Nat → Int32) (g2 : Nat → Int32) (h0 : Heap) (n0 : Nat) : Option Value → Heap → List Loc → Prop := fun v h L => v = some (.int i3) ∧ Fr n0 L ∧ Keep h0 h [x2] ∧ ArF Z h x2 .byte n1 (fun i => .int ((own_lo gc) i))
set_option maxRecDepth 65536 in
set_option maxHeartbeats 40000000 in
theorem rm_cmp5 (l : Launch) (Z : State) (a0 : Array Value) (hw : ∀ d ∈ tables_1, d.before a0 Z = true) (x1 : Addr) (i1 : Int32) (x2 : Addr) (i2 : Int32) (i3 : Int32) (n1 : Nat) (gc : Nat → Int32) (g2 : Nat → Int32) (h0 : Heap) (n0 : Nat) (Z0 : n0 ≤ h0.size) (P0 : ArF Z h0 x1 .char n1 (fun i => .int (gc i))) (P1 : ArF Z h0 x2 .byte n1 (fun i => .int (g2 i))) (ne_x1_x2 : x1 ≠ x2) (ge_x2 : n0 ≤ x2) (hi1 : i1.toInt = 0) (hi2 : i2.toInt = 0) (hi3 : i3.toInt = (n1 : Int)) (hn1 : 1 ≤ n1) (hn3 : n1 ≤ 3) (hgc : ∀ i, i < n1 → 0 ≤ (gc i).toInt ∧ (gc i).toInt ≤ 255) :
    Con l Z (⟨"java/lang/StringUTF16", "compress", "([CI[BII)I"⟩ : MethodName) jdk_52_method_21_code 7 (some .int) ({ frames := 0, cells := 0, slots := 0, locals := 0 } : Room) #[(.ref x1), (.int i1), (.ref x2), (.int i2), (.int i3)] h0 (Q_rm_cmp5 Z x1 i1 x2 i2 i3 n1 gc g2 h0 n0) := by
  refine meet (y := (⟨"java/lang/StringUTF16", "compress", "([CI[BII)I"⟩ : MethodName)) (Q := Q_rm_cmp5 Z x1 i1 x2 i2 i3 n1 gc g2 h0 n0) (plainFor_of_name pn_java_lang_StringUTF16) (fun m => ef_rm_cmp5 m x1 i1 x2 i2 i3) ?_
  intro p e s m below meth c T0 hx hby hml hZ hown hnm hret hlk X0 e0
  have N0 := Fr.nil n0
  have K0 := Keep.refl h0 [x2]
  refine g_iconst X0 hx hby d6_0 (pc' := 1) rfl (z := (0 : Int32)) rfl ?_
  refine g_istore X0 hx hby d6_1 (pc' := 3) rfl (L' := #[.val (.ref x1), .val (.int i1), .val (.ref x2), .val (.int i2), .val (.int i3), .val (.int (0 : Int32)), .unset]) rfl ?_
  refine Go.loop (α := State × (List Loc) × Heap × Int32 × Int32 × Int32 × Slot × (Nat → Int32) × Nat) (P := fun kq x => (fun (Tj3 : State) (Lj3 : List Loc) (hj3 : Heap) (iv : Int32) (iw : Int32) (iy : Int32) (s6 : Slot) (gD : Nat → Int32) (kd : Nat) => Stand p l e ({ frames := 0, cells := 0, slots := 0, locals := 0 } : Room) s m #[(.ref x1), (.int i1), (.ref x2), (.int i2), (.int i3)] below meth c Tj3 Lj3 0 0 ∧ Tj3.heap = hj3 ∧ Fr n0 Lj3 ∧ n0 ≤ hj3.size ∧ Keep h0 hj3 [x2] ∧ ArF Z hj3 x1 .char n1 (fun i => .int (gc i)) ∧ ArF Z hj3 x2 .byte n1 (fun i => .int (gD i)) ∧ (iv.toInt = (kd : Int) ∧ iw.toInt = (kd : Int) ∧ iy.toInt = (kd : Int) ∧ kd ≤ n1 ∧ kq = n1 - kd ∧ One s6 ∧ (∀ i, i < kd → gD i = own_lo gc i))) x.1 x.2.1 x.2.2.1 x.2.2.2.1 x.2.2.2.2.1 x.2.2.2.2.2.1 x.2.2.2.2.2.2.1 x.2.2.2.2.2.2.2.1 x.2.2.2.2.2.2.2.2) (F := fun x => (fun (Tj3 : State) (Lj3 : List Loc) (hj3 : Heap) (iv : Int32) (iw : Int32) (iy : Int32) (s6 : Slot) (gD : Nat → Int32) (kd : Nat) => Tj3.setTop (mkF m 3 #[.val (.ref x1), .val (.int iw), .val (.ref x2), .val (.int iy), .val (.int i3), .val (.int iv), s6] [])) x.1 x.2.1 x.2.2.1 x.2.2.2.1 x.2.2.2.2.1 x.2.2.2.2.2.1 x.2.2.2.2.2.2.1 x.2.2.2.2.2.2.2.1 x.2.2.2.2.2.2.2.2) ?_ (n1) (T0, _, h0, (0 : Int32), i1, i2, .unset, g2, 0) ⟨X0.more (by decide) (by decide), e0, N0, Z0, K0, P0, P1, (show (0 : Int32).toInt = (0 : Int) ∧ i1.toInt = (0 : Int) ∧ i2.toInt = (0 : Int) ∧ 0 ≤ n1 ∧ (n1) = n1 - 0 ∧ One .unset ∧ (∀ i, i < 0 → g2 i = own_lo gc i) from ⟨rfl, by omega, by omega, by omega, rfl, One.u, fun i hi => absurd hi (by omega)⟩)⟩
  rintro kq ⟨Tj3, Lj3, hj3, iv, iw, iy, s6, gD, kd⟩ hP3 IH3
  obtain ⟨Xj3, ej3, Nj3, zj3, Kj3, fj3_0, fj3_1, hJ3⟩ : Stand p l e ({ frames := 0, cells := 0, slots := 0, locals := 0 } : Room) s m #[(.ref x1), (.int i1), (.ref x2), (.int i2), (.int i3)] below meth c Tj3 Lj3 0 0 ∧ Tj3.heap = hj3 ∧ Fr n0 Lj3 ∧ n0 ≤ hj3.size ∧ Keep h0 hj3 [x2] ∧ ArF Z hj3 x1 .char n1 (fun i => .int (gc i)) ∧ ArF Z hj3 x2 .byte n1 (fun i => .int (gD i)) ∧ (iv.toInt = (kd : Int) ∧ iw.toInt = (kd : Int) ∧ iy.toInt = (kd : Int) ∧ kd ≤ n1 ∧ kq = n1 - kd ∧ One s6 ∧ (∀ i, i < kd → gD i = own_lo gc i)) := hP3
  show Go p.tables e below s _ _ _ (Tj3.setTop (mkF m 3 #[.val (.ref x1), .val (.int iw), .val (.ref x2), .val (.int iy), .val (.int i3), .val (.int iv), s6] []))
  obtain ⟨hiv, hiw, hiy, hkd, hkq, ho6, hgD⟩ := hJ3
  refine g_iload Xj3 hx hby d6_3 (pc' := 5) rfl rfl ?_
  refine g_iload Xj3 hx hby d6_5 (pc' := 7) rfl rfl ?_
  by_cases hc7 : iv.toInt < i3.toInt
  · refine g_icmpNo Xj3 hx hby d6_7 (pc' := 10) (tlt (show iv < i3 from Int32.lt_iff_toInt_lt.mpr hc7)).2.1 rfl ?_
    refine g_aloadN Xj3 hx hby d6_10 (pc' := 11) rfl rfl rfl ?_
    refine g_iloadN Xj3 hx hby d6_11 (pc' := 12) rfl rfl ?_
    refine Go.caload Xj3 hx hZ ej3 fj3_0 (k := kd) hiw (by omega) rfl (hb hby d6_12) (pc' := 13) rfl ?_
    generalize hv1 : (gc kd) = v1
    have hsl2 : storeLocals #[.val (.ref x1), .val (.int iw), .val (.ref x2), .val (.int iy), .val (.int i3), .val (.int iv), s6] 6 (.int v1) = some #[.val (.ref x1), .val (.int iw), .val (.ref x2), .val (.int iy), .val (.int i3), .val (.int iv), .val (.int v1)] := by
      rcases ho6 with rfl | ⟨w9, rfl, hw9⟩
      · rfl
      · cases w9 <;> first | rfl | (simp [Value.category] at hw9)
    refine g_istore Xj3 hx hby d6_13 (pc' := 15) rfl hsl2 ?_
    refine g_iload Xj3 hx hby d6_15 (pc' := 17) rfl rfl ?_
    refine g_sipush Xj3 hx hby d6_17 (pc' := 20) rfl (z := (255 : Int32)) rfl ?_
    have hc20 : ¬ ((255 : Int) < v1.toInt) := by have q := hgc kd (by omega); rw [hv1] at q; omega
    refine g_icmpYes Xj3 hx hby d6_20 (pc' := 26) (flt (show ¬ ((255 : Int32) < v1) from fun q => hc20 (Int32.lt_iff_toInt_lt.mp q))).2.2.2 (by decide) (by decide) ?_
    refine g_aloadN Xj3 hx hby d6_26 (pc' := 27) rfl rfl rfl ?_
    refine g_iloadN Xj3 hx hby d6_27 (pc' := 28) rfl rfl ?_
    refine g_iload Xj3 hx hby d6_28 (pc' := 30) rfl rfl ?_
    refine g_i2b Xj3 hx hby d6_30 (pc' := 31) rfl rfl ?_
    refine Go.bastore Xj3 hx hZ ej3 fj3_1 (k := kd) hiy (by omega) (hb hby d6_31) (pc' := 32) rfl ?_
    intro T3 h3 X3 e3 W3 V3
    refine g_iinc X3 hx hby d6_32 (pc' := 35) rfl rfl (L' := #[.val (.ref x1), .val (.int (iw + (1 : Int32))), .val (.ref x2), .val (.int iy), .val (.int i3), .val (.int iv), .val (.int v1)]) rfl ?_
    refine g_iinc X3 hx hby d6_35 (pc' := 38) rfl rfl (L' := #[.val (.ref x1), .val (.int (iw + (1 : Int32))), .val (.ref x2), .val (.int (iy + (1 : Int32))), .val (.int i3), .val (.int iv), .val (.int v1)]) rfl ?_
    refine g_iinc X3 hx hby d6_38 (pc' := 41) rfl rfl (L' := #[.val (.ref x1), .val (.int (iw + (1 : Int32))), .val (.ref x2), .val (.int (iy + (1 : Int32))), .val (.int i3), .val (.int (iv + (1 : Int32))), .val (.int v1)]) rfl ?_
    refine g_goto X3 hx hby d6_41 (pc' := 3) (by decide) (by decide) ?_
    have f4 := fj3_0.other W3 ne_x1_x2
    exact IH3 (n1 - (kd + 1)) (T3, _, h3, (iv + (1 : Int32)), (iw + (1 : Int32)), (iy + (1 : Int32)), (.val (.int v1)), (upI gD kd (nar .byte (v1.toInt8.toInt32))), (kd + 1)) (by omega) ⟨X3.more (by decide) (by decide), e3, (Fr.snoc X3 Nj3 ge_x2), (Nat.le_trans zj3 (Nat.le_of_eq (Wr.size W3).symm)), (Kj3.wr W3 (Or.inl (List.mem_of_getElem? (i := 0) rfl))), f4, V3, (show (iv + (1 : Int32)).toInt = ((kd + 1) : Int) ∧ (iw + (1 : Int32)).toInt = ((kd + 1) : Int) ∧ (iy + (1 : Int32)).toInt = ((kd + 1) : Int) ∧ (kd + 1) ≤ n1 ∧ (n1 - (kd + 1)) = n1 - (kd + 1) ∧ One (.val (.int v1)) ∧ (∀ i, i < (kd + 1) → (upI gD kd (nar .byte (v1.toInt8.toInt32))) i = own_lo gc i) from ⟨by have : ((iv + (1 : Int32)).toInt - (iv.toInt + (1))) % 4294967296 = 0 := c_iadd _ _; have : -2147483648 ≤ (iv + (1 : Int32)).toInt ∧ (iv + (1 : Int32)).toInt < 2147483648 := rng32 _; have : -2147483648 ≤ iv.toInt ∧ iv.toInt < 2147483648 := rng32 _; omega, by have : ((iw + (1 : Int32)).toInt - (iw.toInt + (1))) % 4294967296 = 0 := c_iadd _ _; have : -2147483648 ≤ (iw + (1 : Int32)).toInt ∧ (iw + (1 : Int32)).toInt < 2147483648 := rng32 _; have : -2147483648 ≤ iw.toInt ∧ iw.toInt < 2147483648 := rng32 _; omega, by have : ((iy + (1 : Int32)).toInt - (iy.toInt + (1))) % 4294967296 = 0 := c_iadd _ _; have : -2147483648 ≤ (iy + (1 : Int32)).toInt ∧ (iy + (1 : Int32)).toInt < 2147483648 := rng32 _; have : -2147483648 ≤ iy.toInt ∧ iy.toInt < 2147483648 := rng32 _; omega, by omega, by omega, One.val rfl, own_loS gD gc kd v1 hv1 hgD⟩)⟩
  · refine g_icmpYes Xj3 hx hby d6_7 (pc' := 44) (flt (show ¬ (iv < i3) from fun q => hc7 (Int32.lt_iff_toInt_lt.mp q))).2.1 (by decide) (by decide) ?_
    refine g_iload Xj3 hx hby d6_44 (pc' := 46) rfl rfl ?_
    refine Go.retI Xj3 hx hlk hret (hb hby d6_46) (by decide) (by decide) ?_
    have hke : kd = n1 := by omega
    have VU : ArF Z hj3 x2 .byte n1 (fun i => .int ((own_lo gc) i)) := fj3_1.congr (fun i hi => congrArg Value.int (hgD i (by omega)).symm)
    rw [ej3]
    exact ⟨rfl, Nj3, Kj3, VU⟩
theorem d5_0 : decode jdk_52_method_16_code 0 = .ok (.iload_n 2, 1) := by decide +kernel
theorem d5_1 : decode jdk_52_method_16_code 1 = .ok (.newarray .byte, 2) := by decide +kernel
theorem d5_3 : decode jdk_52_method_16_code 3 = .ok (.astore_n 3, 1) := by decide +kernel
theorem d5_4 : decode jdk_52_method_16_code 4 = .ok (.aload_n 0, 1) := by decide +kernel
theorem d5_5 : decode jdk_52_method_16_code 5 = .ok (.iload_n 1, 1) := by decide +kernel
theorem d5_6 : decode jdk_52_method_16_code 6 = .ok (.aload_n 3, 1) := by decide +kernel
theorem d5_7 : decode jdk_52_method_16_code 7 = .ok (.iconst 0, 1) := by decide +kernel
theorem d5_8 : decode jdk_52_method_16_code 8 = .ok (.iload_n 2, 1) := by decide +kernel
theorem d5_9 : decode jdk_52_method_16_code 9 = .ok (.invokestatic 115, 3) := by decide +kernel
theorem pd0 : parseMethodDescriptor "([CI[BII)I" = some ⟨[(.array .char), .int, (.array .byte), .int, .int], some .int⟩ := by decide +kernel
theorem d5_12 : decode jdk_52_method_16_code 12 = .ok (.istore 4, 2) := by decide +kernel
theorem d5_14 : decode jdk_52_method_16_code 14 = .ok (.iload 4, 2) := by decide +kernel
theorem d5_16 : decode jdk_52_method_16_code 16 = .ok (.iload_n 2, 1) := by decide +kernel
theorem d5_17 : decode jdk_52_method_16_code 17 = .ok (.if_icmp .eq 40, 3) := by decide +kernel
theorem d5_57 : decode jdk_52_method_16_code 57 = .ok (.aload_n 3, 1) := by decide +kernel
theorem d5_58 : decode jdk_52_method_16_code 58 = .ok (.areturn, 1) := by decide +kernel
theorem ef_rm_cmp3 (m : MethodId) (x0 : Addr) (x1 : Int32) (x2 : Int32) : entryFrame m #[(.ref x0), (.int x1), (.int x2)] 6 = mkF m 0 #[.val (.ref x0), .val (.int x1), .val (.int x2), .unset, .unset, .unset] [] := by first | (simp [entryFrame, mkF, argsToLocals, Value.category]; done) | rfl
abbrev Q_rm_cmp3 (Z : State) (x1 : Addr) (i1 : Int32) (i2 : Int32) (n1 : Nat) (gc : Nat → Int32) (h0 : Heap) (n0 : Nat) : Option Value → Heap → List Loc → Prop := fun v h L => ∃ (b1 : Addr), v = some (.ref b1) ∧ Fr n0 L ∧ Keep h0 h [] ∧ n0 ≤ b1 ∧ h0.size ≤ b1 ∧ ArF Z h b1 .byte n1 (fun i => .int ((own_lo gc) i))
set_option maxRecDepth 65536 in
set_option maxHeartbeats 40000000 in
theorem rm_cmp3 (l : Launch) (Z : State) (a0 : Array Value) (hw : ∀ d ∈ tables_1, d.before a0 Z = true) (x1 : Addr) (i1 : Int32) (i2 : Int32) (n1 : Nat) (gc : Nat → Int32) (h0 : Heap) (n0 : Nat) (Z0 : n0 ≤ h0.size) (P0 : ArF Z h0 x1 .char n1 (fun i => .int (gc i))) (hi1 : i1.toInt = 0) (hi2 : i2.toInt = (n1 : Int)) (hn1 : 1 ≤ n1) (hn3 : n1 ≤ 3) (hgc : ∀ i, i < n1 → 0 ≤ (gc i).toInt ∧ (gc i).toInt ≤ 255) :
    Con l Z (⟨"java/lang/StringUTF16", "compress", "([CII)[B"⟩ : MethodName) jdk_52_method_16_code 6 (some (.array .byte)) ({ frames := 1, cells := 1, slots := 3, locals := 18 } : Room) #[(.ref x1), (.int i1), (.int i2)] h0 (Q_rm_cmp3 Z x1 i1 i2 n1 gc h0 n0) := by
  refine meet (y := (⟨"java/lang/StringUTF16", "compress", "([CII)[B"⟩ : MethodName)) (Q := Q_rm_cmp3 Z x1 i1 i2 n1 gc h0 n0) (plainFor_of_name pn_java_lang_StringUTF16) (fun m => ef_rm_cmp3 m x1 i1 i2) ?_
  intro p e s m below meth c T0 hx hby hml hZ hown hnm hret hlk X0 e0
  have N0 := Fr.nil n0
  have K0 := Keep.refl h0 []
  refine g_iloadN X0 hx hby d5_0 (pc' := 1) rfl rfl ?_
  refine Go.newarr X0 hx hZ (n := n1) (cap := 3) (ty := .byte) rfl (wi hw 23 rfl) e0 (by rw [Int32.lt_iff_toInt_lt]; show ¬ i2.toInt < 0; omega) (nat_idx hi2) (by omega) (by decide) (by decide) (by decide) (hb hby d5_1) (pc' := 3) rfl ?_
  intro T1 h1 b1 X1 e1 E1 hb1 V1
  have g2 : n0 ≤ b1 := by rw [hb1]; exact Z0
  have s3 : h0.size ≤ b1 := by rw [hb1]; exact K0.1
  have V4 : ArF Z h1 b1 .byte n1 (fun i => .int ((fun _ => (0 : Int32)) i)) := V1
  refine g_astoreN X1 hx hby d5_3 (pc' := 4) rfl rfl (L' := #[.val (.ref x1), .val (.int i1), .val (.int i2), .val (.ref b1), .unset, .unset]) rfl ?_
  refine g_aloadN X1 hx hby d5_4 (pc' := 5) rfl rfl rfl ?_
  refine g_iloadN X1 hx hby d5_5 (pc' := 6) rfl rfl ?_
  refine g_aloadN X1 hx hby d5_6 (pc' := 7) rfl rfl rfl ?_
  refine g_iconst X1 hx hby d5_7 (pc' := 8) rfl (z := (0 : Int32)) rfl ?_
  refine g_iloadN X1 hx hby d5_8 (pc' := 9) rfl rfl ?_
  have f6 := P0.ext E1
  have ne7 : x1 ≠ b1 := Nat.ne_of_lt (by rw [hb1]; exact P0.lt)
  refine Go.callS X1 hx hZ hown (wi hw 24 rfl) (wi hw 25 rfl) (wi hw 21 rfl) (wi hw 26 rfl) (by decide) e1 (argsL := [(.ref x1), (.int i1), (.ref b1), (.int (0 : Int32)), (.int i2)]) (rest := []) (W := 0) (rm_cmp5 l Z a0 hw x1 i1 b1 (0 : Int32) i2 n1 gc (fun _ => (0 : Int32)) h1 n0 (Nat.le_trans Z0 E1.1) f6 V4 ne7 g2 hi1 rfl hi2 (by omega) (by omega) hgc) (hb hby d5_9) (by rw [hml]; rfl) rfl pd0 rfl rfl (by decide) (by decide) (by decide) (by decide) ?_
  intro v5 T5 L5 X5 hQ5
  obtain ⟨h5, e5⟩ : ∃ z, T5.heap = z := ⟨_, rfl⟩
  rw [e5] at hQ5
  obtain ⟨rfl, Nq5, Kq5, Fq0_5⟩ := hQ5
  have N5 := Fr.app N0 Nq5
  refine Go.push (pc' := 12) rfl ?_
  refine g_istore X5 hx hby d5_12 (pc' := 14) rfl (L' := #[.val (.ref x1), .val (.int i1), .val (.int i2), .val (.ref b1), .val (.int i2), .unset]) rfl ?_
  refine g_iload X5 hx hby d5_14 (pc' := 16) rfl rfl ?_
  refine g_iloadN X5 hx hby d5_16 (pc' := 17) rfl rfl ?_
  have hc17 : i2.toInt = i2.toInt := rfl
  refine g_icmpYes X5 hx hby d5_17 (pc' := 57) (teq (show i2 = i2 from Int32.toInt_inj.mp hc17)).1 (by decide) (by decide) ?_
  refine g_aloadN X5 hx hby d5_57 (pc' := 58) rfl rfl rfl ?_
  refine Go.retA X5 hx hlk hret rfl rfl (hb hby d5_58) (by decide) (by decide) ?_
  rw [e5]
  exact ⟨b1, rfl, N5, ((K0.ext E1).trans Kq5 (allS (Or.inr s3) all0)), g2, s3, Fq0_5⟩
theorem d7_0 : decode jdk_52_method_15_code 0 = .ok (.iload_n 1, 1) := by decide +kernel
theorem d7_1 : decode jdk_52_method_15_code 1 = .ok (.aload_n 0, 1) := by decide +kernel
theorem d7_2 : decode jdk_52_method_15_code 2 = .ok (.arraylength, 1) := by decide +kernel
theorem d7_3 : decode jdk_52_method_15_code 3 = .ok (.isub, 1) := by decide +kernel
theorem d7_4 : decode jdk_52_method_15_code 4 = .ok (.bipush 31, 2) := by decide +kernel
theorem d7_6 : decode jdk_52_method_15_code 6 = .ok (.iushr, 1) := by decide +kernel
theorem d7_7 : decode jdk_52_method_15_code 7 = .ok (.i2b, 1) := by decide +kernel
theorem d7_8 : decode jdk_52_method_15_code 8 = .ok (.ireturn, 1) := by decide +kernel
theorem ef_rm_cod (m : MethodId) (x0 : Addr) (x1 : Int32) : entryFrame m #[(.ref x0), (.int x1)] 2 = mkF m 0 #[.val (.ref x0), .val (.int x1)] [] := by first | (simp [entryFrame, mkF, argsToLocals, Value.category]; done) | rfl
abbrev Q_rm_cod (Z : State) (x1 : Addr) (i1 : Int32) (n1 : Nat) (g1 : Nat → Int32) (h0 : Heap) (n0 : Nat) : Option Value → Heap → List Loc → Prop := fun v h L => v = some (.int (0 : Int32)) ∧ Fr n0 L ∧ h = h0
set_option maxRecDepth 65536 in
set_option maxHeartbeats 40000000 in
theorem rm_cod (l : Launch) (Z : State) (a0 : Array Value) (hw : ∀ d ∈ tables_1, d.before a0 Z = true) (x1 : Addr) (i1 : Int32) (n1 : Nat) (g1 : Nat → Int32) (h0 : Heap) (n0 : Nat) (Z0 : n0 ≤ h0.size) (P0 : ArF Z h0 x1 .byte n1 (fun i => .int (g1 i))) (hi1 : i1.toInt = (n1 : Int)) (hn1 : 1 ≤ n1) (hn3 : n1 ≤ 3) :
    Con l Z (⟨"java/lang/StringUTF16", "coderFromArrayLen", "([BI)B"⟩ : MethodName) jdk_52_method_15_code 2 (some .byte) ({ frames := 0, cells := 0, slots := 0, locals := 0 } : Room) #[(.ref x1), (.int i1)] h0 (Q_rm_cod Z x1 i1 n1 g1 h0 n0) := by
  refine meet (y := (⟨"java/lang/StringUTF16", "coderFromArrayLen", "([BI)B"⟩ : MethodName)) (Q := Q_rm_cod Z x1 i1 n1 g1 h0 n0) (plainFor_of_name pn_java_lang_StringUTF16) (fun m => ef_rm_cod m x1 i1) ?_
  intro p e s m below meth c T0 hx hby hml hZ hown hnm hret hlk X0 e0
  have N0 := Fr.nil n0
  refine g_iloadN X0 hx hby d7_0 (pc' := 1) rfl rfl ?_
  refine g_aloadN X0 hx hby d7_1 (pc' := 2) rfl rfl rfl ?_
  refine Go.alen X0 hx hZ e0 P0 (z := ((n1 : Nat).toInt32)) rfl (hb hby d7_2) (pc' := 3) rfl ?_
  refine g_isub X0 hx hby d7_3 (pc' := 4) rfl rfl ?_
  refine g_bipush X0 hx hby d7_4 (pc' := 6) rfl (z := (31 : Int32)) rfl ?_
  refine g_iushr X0 hx hby d7_6 (pc' := 7) rfl rfl ?_
  refine g_i2b X0 hx hby d7_7 (pc' := 8) rfl rfl ?_
  refine Go.retZ X0 hx hlk hret (by simp) (hb hby d7_8) (by decide) (by decide) ?_
  exact ⟨(by rw [show i1 - ((n1 : Nat).toInt32) = (0 : Int32) from Int32.toInt_inj.mp (by have q1 := len_toInt (n := n1) (by omega); have q2 := c_isub i1 ((n1 : Nat).toInt32); have q3 := rng32 (i1 - ((n1 : Nat).toInt32)); show _ = (0 : Int); omega)]; rfl), N0, e0⟩
theorem d3_0 : decode jdk_42_method_149_code 0 = .ok (.aload_n 0, 1) := by decide +kernel
theorem d3_1 : decode jdk_42_method_149_code 1 = .ok (.invokespecial 1, 3) := by decide +kernel
theorem d3_4 : decode jdk_42_method_149_code 4 = .ok (.iload_n 3, 1) := by decide +kernel
theorem d3_5 : decode jdk_42_method_149_code 5 = .ok (.ifCond .ne 22, 3) := by decide +kernel
theorem d3_27 : decode jdk_42_method_149_code 27 = .ok (.getstatic 38, 3) := by decide +kernel
theorem d3_30 : decode jdk_42_method_149_code 30 = .ok (.ifCond .eq 28, 3) := by decide +kernel
theorem d3_33 : decode jdk_42_method_149_code 33 = .ok (.aload_n 1, 1) := by decide +kernel
theorem d3_34 : decode jdk_42_method_149_code 34 = .ok (.iload_n 2, 1) := by decide +kernel
theorem d3_35 : decode jdk_42_method_149_code 35 = .ok (.iload_n 3, 1) := by decide +kernel
theorem d3_36 : decode jdk_42_method_149_code 36 = .ok (.invokestatic 177, 3) := by decide +kernel
theorem pd1 : parseMethodDescriptor "([CII)[B" = some ⟨[(.array .char), .int, .int], some (.array .byte)⟩ := by decide +kernel
theorem d3_39 : decode jdk_42_method_149_code 39 = .ok (.astore 5, 2) := by decide +kernel
theorem d3_41 : decode jdk_42_method_149_code 41 = .ok (.aload_n 0, 1) := by decide +kernel
theorem d3_42 : decode jdk_42_method_149_code 42 = .ok (.aload 5, 2) := by decide +kernel
theorem d3_44 : decode jdk_42_method_149_code 44 = .ok (.iload_n 3, 1) := by decide +kernel
theorem d3_45 : decode jdk_42_method_149_code 45 = .ok (.invokestatic 47, 3) := by decide +kernel
theorem pd2 : parseMethodDescriptor "([BI)B" = some ⟨[(.array .byte), .int], some .byte⟩ := by decide +kernel
theorem d3_48 : decode jdk_42_method_149_code 48 = .ok (.putfield 15, 3) := by decide +kernel
theorem d3_51 : decode jdk_42_method_149_code 51 = .ok (.aload_n 0, 1) := by decide +kernel
theorem d3_52 : decode jdk_42_method_149_code 52 = .ok (.aload 5, 2) := by decide +kernel
theorem d3_54 : decode jdk_42_method_149_code 54 = .ok (.putfield 9, 3) := by decide +kernel
theorem sn0 {a0 : Array Value} {Z : State} (hw : ∀ d ∈ tables_1, d.before a0 Z = true) : Jvm.RoadKit.slotOf Z "java/lang/String" "value" "[B" ≠ Jvm.RoadKit.slotOf Z "java/lang/String" "coder" "B" := slot_ne (Or.inr (wi hw 33 rfl)) (Or.inr (wi hw 31 rfl)) (by decide) (t := (.array .byte)) (t' := .byte) (by decide) (by decide)
theorem d3_57 : decode jdk_42_method_149_code 57 = .ok (.return_, 1) := by decide +kernel
theorem sn1 {a0 : Array Value} {Z : State} (hw : ∀ d ∈ tables_1, d.before a0 Z = true) : Jvm.RoadKit.slotOf Z "java/lang/String" "coder" "B" ≠ Jvm.RoadKit.slotOf Z "java/lang/String" "value" "[B" := slot_ne (Or.inr (wi hw 31 rfl)) (Or.inr (wi hw 33 rfl)) (by decide) (t := .byte) (t' := (.array .byte)) (by decide) (by decide)
theorem ef_rm_in4 (m : MethodId) (x0 : Addr) (x1 : Addr) (x2 : Int32) (x3 : Int32) : entryFrame m #[(.ref x0), (.ref x1), (.int x2), (.int x3), .null] 6 = mkF m 0 #[.val (.ref x0), .val (.ref x1), .val (.int x2), .val (.int x3), .val .null, .unset] [] := by first | (simp [entryFrame, mkF, argsToLocals, Value.category]; done) | rfl
theorem pn_java_lang_String : plainName "java/lang/String" = true := by first | (simp [plainName, overriddenIn]; done) | decide +kernel
abbrev Q_rm_in4 (Z : State) (a1 : Addr) (x1 : Addr) (i1 : Int32) (i2 : Int32) (n1 : Nat) (gc : Nat → Int32) (G1 : Int32) (h0 : Heap) (n0 : Nat) : Option Value → Heap → List Loc → Prop := fun v h L => ∃ (b1 : Addr), v = none ∧ Fr n0 L ∧ Keep h0 h [a1] ∧ n0 ≤ b1 ∧ h0.size ≤ b1 ∧ Fld Z h a1 "java/lang/String" "value" "[B" (.ref b1) ∧ Fld Z h a1 "java/lang/String" "coder" "B" (.int (0 : Int32)) ∧ ArF Z h b1 .byte n1 (fun i => .int ((own_lo gc) i))
set_option maxRecDepth 65536 in
set_option maxHeartbeats 40000000 in
theorem rm_in4 (l : Launch) (Z : State) (a0 : Array Value) (hw : ∀ d ∈ tables_1, d.before a0 Z = true) (a1 : Addr) (x1 : Addr) (i1 : Int32) (i2 : Int32) (n1 : Nat) (gc : Nat → Int32) (G1 : Int32) (h0 : Heap) (n0 : Nat) (Z0 : n0 ≤ h0.size) (P0 : Exa Z h0 a1 "java/lang/String") (P1 : Fld Z h0 a1 "java/lang/String" "value" "[B" .null) (P2 : Fld Z h0 a1 "java/lang/String" "coder" "B" (.int (0 : Int32))) (P3 : Old Z n0 h0) (P4 : ArF Z h0 x1 .char n1 (fun i => .int (gc i))) (ne_x1_a1 : x1 ≠ a1) (ge_a1 : n0 ≤ a1) (hi1 : i1.toInt = 0) (hi2 : i2.toInt = (n1 : Int)) (hn1 : 1 ≤ n1) (hn3 : n1 ≤ 3) (hgc : ∀ i, i < n1 → 0 ≤ (gc i).toInt ∧ (gc i).toInt ≤ 255) (O2 : Sta Z Z.heap "java/lang/String" "COMPACT_STRINGS" "Z" (.int G1)) (hG1 : ¬ G1.toInt = 0) :
    Con l Z (⟨"java/lang/String", "<init>", "([CIILjava/lang/Void;)V"⟩ : MethodName) jdk_42_method_149_code 6 none ({ frames := 2, cells := 1, slots := 3, locals := 35 } : Room) #[(.ref a1), (.ref x1), (.int i1), (.int i2), .null] h0 (Q_rm_in4 Z a1 x1 i1 i2 n1 gc G1 h0 n0) := by
  refine meet (y := (⟨"java/lang/String", "<init>", "([CIILjava/lang/Void;)V"⟩ : MethodName)) (Q := Q_rm_in4 Z a1 x1 i1 i2 n1 gc G1 h0 n0) (plainFor_of_name pn_java_lang_String) (fun m => ef_rm_in4 m a1 x1 i1 i2) ?_
  intro p e s m below meth c T0 hx hby hml hZ hown hnm hret hlk X0 e0
  have N0 := Fr.nil n0
  have K0 := Keep.refl h0 [a1]
  refine g_aloadN X0 hx hby d3_0 (pc' := 1) rfl rfl rfl ?_
  refine g_init X0 hx hby hZ hown (wi hw 15 rfl) (wi hw 16 rfl) (wi hw 17 rfl) e0 (by rw [hml]; rfl) d3_1 (pc' := 4) rfl (by decide) (W := 0) rfl (by decide) ?_
  intro T1 X1 e1
  refine g_iloadN X1 hx hby d3_4 (pc' := 5) rfl rfl ?_
  have hc5 : ¬ (i2.toInt = (0 : Int)) := by omega
  refine g_ifYes X1 hx hby d3_5 (pc' := 27) (feq (show ¬ (i2 = (0 : Int32)) from fun q => hc5 (congrArg Int32.toInt q))).2 (by decide) (by decide) ?_
  obtain ⟨T2, X2, e2, st2⟩ := getS (host := "") X1 hx hZ hown (wi hw 18 rfl) Via.refl e1 (O2.ext P3.2) (g := (mkF m 27 #[.val (.ref a1), .val (.ref x1), .val (.int i1), .val (.int i2), .val .null, .unset] [])) rfl (hb hby d3_27)
  refine Go.of st2 ?_
  show Go p.tables e below s _ _ _ (T2.setTop (mkF m 30 #[.val (.ref a1), .val (.ref x1), .val (.int i1), .val (.int i2), .val .null, .unset] [(.int G1)]))
  have hc30 : ¬ (G1.toInt = (0 : Int)) := hG1
  refine g_ifNo X2 hx hby d3_30 (pc' := 33) (feq (show ¬ (G1 = (0 : Int32)) from fun q => hc30 (congrArg Int32.toInt q))).1 rfl ?_
  refine g_aloadN X2 hx hby d3_33 (pc' := 34) rfl rfl rfl ?_
  refine g_iloadN X2 hx hby d3_34 (pc' := 35) rfl rfl ?_
  refine g_iloadN X2 hx hby d3_35 (pc' := 36) rfl rfl ?_
  refine Go.callS X2 hx hZ hown (wi hw 19 rfl) (wi hw 20 rfl) (wi hw 21 rfl) (wi hw 22 rfl) (by decide) e2 (argsL := [(.ref x1), (.int i1), (.int i2)]) (rest := []) (W := 0) (rm_cmp3 l Z a0 hw x1 i1 i2 n1 gc h0 n0 Z0 P4 hi1 hi2 (by omega) (by omega) hgc) (hb hby d3_36) (by rw [hml]; rfl) rfl pd1 rfl rfl (by decide) (by decide) (by decide) (by decide) ?_
  intro v3 T3 L3 X3 hQ3
  obtain ⟨h3, e3⟩ : ∃ z, T3.heap = z := ⟨_, rfl⟩
  rw [e3] at hQ3
  obtain ⟨b1_3, rfl, Nq3, Kq3, gqb1_3, sqb1_3, Fq0_3⟩ := hQ3
  have N3 := Fr.app N0 Nq3
  have s4 : h0.size ≤ b1_3 := Nat.le_trans K0.1 sqb1_3
  refine Go.push (pc' := 39) rfl ?_
  refine g_astore X3 hx hby d3_39 (pc' := 41) rfl rfl (L' := #[.val (.ref a1), .val (.ref x1), .val (.int i1), .val (.int i2), .val .null, .val (.ref b1_3)]) rfl ?_
  refine g_aloadN X3 hx hby d3_41 (pc' := 42) rfl rfl rfl ?_
  refine g_aload X3 hx hby d3_42 (pc' := 44) rfl rfl rfl ?_
  refine g_iloadN X3 hx hby d3_44 (pc' := 45) rfl rfl ?_
  refine Go.callS X3 hx hZ hown (wi hw 27 rfl) (wi hw 28 rfl) (wi hw 21 rfl) (wi hw 29 rfl) (by decide) e3 (argsL := [(.ref b1_3), (.int i2)]) (rest := [(.ref a1)]) (W := 1) (rm_cod l Z a0 hw b1_3 i2 n1 (own_lo gc) h3 n0 (Nat.le_trans Z0 Kq3.1) Fq0_3 hi2 (by omega) (by omega)) (hb hby d3_45) (by rw [hml]; rfl) rfl pd2 rfl rfl (by decide) (by decide) (by decide) (by decide) ?_
  intro v5 T5 L5 X5 hQ5
  obtain ⟨rfl, Nq5, hh5⟩ := hQ5
  have N5 := Fr.app N3 Nq5
  refine Go.push (pc' := 48) rfl ?_
  have f6 := P2.keep Kq3 nin0
  have f7 := P0.keep Kq3
  obtain ⟨T8, h8, X8, e8, W8, st8⟩ := putFN X5 hx hZ hown (wi hw 30 rfl) Via.refl hh5 f6 f7 (Or.inr ⟨(wi hw 31 rfl), rfl, hnm⟩) (wi hw 6 rfl) (ty := .byte) (v' := (.int (0 : Int32))) (by decide) rfl rfl (g := (mkF m 48 #[.val (.ref a1), .val (.ref x1), .val (.int i1), .val (.int i2), .val .null, .val (.ref b1_3)] [(.int (0 : Int32)), (.ref a1)])) rfl rfl (hb hby d3_48)
  refine Go.of st8 ?_
  have F8 := f6.same W8
  show Go p.tables e below s _ _ _ (T8.setTop (mkF m 51 #[.val (.ref a1), .val (.ref x1), .val (.int i1), .val (.int i2), .val .null, .val (.ref b1_3)] []))
  refine g_aloadN X8 hx hby d3_51 (pc' := 52) rfl rfl rfl ?_
  refine g_aload X8 hx hby d3_52 (pc' := 54) rfl rfl rfl ?_
  have f9 := ((P1.keep Kq3 nin0).other W8 (Or.inr (sn0 hw)))
  have f10 := f7.wr W8
  refine g_putf X8 hx hby hZ hown (host := "") (Or.inl (wi hw 32 rfl)) Via.refl e8 f9 f10 (Or.inr ⟨(wi hw 33 rfl), rfl, hnm⟩) (wi hw 6 rfl) (ty := (.array .byte)) (by decide) rfl rfl d3_54 (pc' := 57) rfl ?_
  intro T11 h11 X11 e11 W11 F11
  refine Go.retV X11 hx hlk hret (hb hby d3_57) rfl (by decide) (by decide) ?_
  rw [e11]
  have f12 := (F8.other W11 (Or.inr (sn1 hw)))
  have ne13 : a1 ≠ b1_3 := Nat.ne_of_lt (Nat.lt_of_lt_of_le P2.lt sqb1_3)
  have f14 := ((Fq0_3.other W8 (Ne.symm ne13)).other W11 (Ne.symm ne13))
  exact ⟨b1_3, rfl, (Fr.snoc X11 (Fr.snoc X8 N5 ge_a1) ge_a1), (((K0.trans Kq3 all0).wr W8 (Or.inl (List.mem_of_getElem? (i := 0) rfl))).wr W11 (Or.inl (List.mem_of_getElem? (i := 0) rfl))), gqb1_3, s4, F11, f12, f14⟩
theorem d2_0 : decode jdk_42_method_3_code 0 = .ok (.aload_n 0, 1) := by decide +kernel
theorem d2_1 : decode jdk_42_method_3_code 1 = .ok (.aload_n 1, 1) := by decide +kernel
theorem d2_2 : decode jdk_42_method_3_code 2 = .ok (.iconst 0, 1) := by decide +kernel
theorem d2_3 : decode jdk_42_method_3_code 3 = .ok (.aload_n 1, 1) := by decide +kernel
theorem d2_4 : decode jdk_42_method_3_code 4 = .ok (.arraylength, 1) := by decide +kernel
theorem d2_5 : decode jdk_42_method_3_code 5 = .ok (.aconst_null, 1) := by decide +kernel
theorem d2_6 : decode jdk_42_method_3_code 6 = .ok (.invokespecial 27, 3) := by decide +kernel
theorem pd3 : parseMethodDescriptor "([CIILjava/lang/Void;)V" = some ⟨[(.array .char), .int, .int, (.object "java/lang/Void")], none⟩ := by decide +kernel
theorem d2_9 : decode jdk_42_method_3_code 9 = .ok (.return_, 1) := by decide +kernel
theorem ef_rm_in1 (m : MethodId) (x0 : Addr) (x1 : Addr) : entryFrame m #[(.ref x0), (.ref x1)] 2 = mkF m 0 #[.val (.ref x0), .val (.ref x1)] [] := by first | (simp [entryFrame, mkF, argsToLocals, Value.category]; done) | rfl
abbrev Q_rm_in1 (Z : State) (a1 : Addr) (x1 : Addr) (n1 : Nat) (gc : Nat → Int32) (G1 : Int32) (h0 : Heap) (n0 : Nat) : Option Value → Heap → List Loc → Prop := fun v h L => ∃ (b1 : Addr), v = none ∧ Fr n0 L ∧ Keep h0 h [a1] ∧ n0 ≤ b1 ∧ h0.size ≤ b1 ∧ Fld Z h a1 "java/lang/String" "value" "[B" (.ref b1) ∧ Fld Z h a1 "java/lang/String" "coder" "B" (.int (0 : Int32)) ∧ ArF Z h b1 .byte n1 (fun i => .int ((own_lo gc) i))
set_option maxRecDepth 65536 in
set_option maxHeartbeats 40000000 in
theorem rm_in1 (l : Launch) (Z : State) (a0 : Array Value) (hw : ∀ d ∈ tables_1, d.before a0 Z = true) (a1 : Addr) (x1 : Addr) (n1 : Nat) (gc : Nat → Int32) (G1 : Int32) (h0 : Heap) (n0 : Nat) (Z0 : n0 ≤ h0.size) (P0 : Exa Z h0 a1 "java/lang/String") (P1 : Fld Z h0 a1 "java/lang/String" "value" "[B" .null) (P2 : Fld Z h0 a1 "java/lang/String" "coder" "B" (.int (0 : Int32))) (P3 : Old Z n0 h0) (P4 : ArF Z h0 x1 .char n1 (fun i => .int (gc i))) (ne_x1_a1 : x1 ≠ a1) (ge_a1 : n0 ≤ a1) (hn1 : 1 ≤ n1) (hn3 : n1 ≤ 3) (hgc : ∀ i, i < n1 → 0 ≤ (gc i).toInt ∧ (gc i).toInt ≤ 255) (O2 : Sta Z Z.heap "java/lang/String" "COMPACT_STRINGS" "Z" (.int G1)) (hG1 : ¬ G1.toInt = 0) :
    Con l Z (⟨"java/lang/String", "<init>", "([C)V"⟩ : MethodName) jdk_42_method_3_code 2 none ({ frames := 3, cells := 1, slots := 3, locals := 52 } : Room) #[(.ref a1), (.ref x1)] h0 (Q_rm_in1 Z a1 x1 n1 gc G1 h0 n0) := by
  refine meet (y := (⟨"java/lang/String", "<init>", "([C)V"⟩ : MethodName)) (Q := Q_rm_in1 Z a1 x1 n1 gc G1 h0 n0) (plainFor_of_name pn_java_lang_String) (fun m => ef_rm_in1 m a1 x1) ?_
  intro p e s m below meth c T0 hx hby hml hZ hown hnm hret hlk X0 e0
  have N0 := Fr.nil n0
  have K0 := Keep.refl h0 [a1]
  refine g_aloadN X0 hx hby d2_0 (pc' := 1) rfl rfl rfl ?_
  refine g_aloadN X0 hx hby d2_1 (pc' := 2) rfl rfl rfl ?_
  refine g_iconst X0 hx hby d2_2 (pc' := 3) rfl (z := (0 : Int32)) rfl ?_
  refine g_aloadN X0 hx hby d2_3 (pc' := 4) rfl rfl rfl ?_
  refine Go.alen X0 hx hZ e0 P4 (z := ((n1 : Nat).toInt32)) rfl (hb hby d2_4) (pc' := 5) rfl ?_
  refine g_aconst_null X0 hx hby d2_5 (pc' := 6) rfl  ?_
  refine Go.callI X0 hx hZ hown rfl (wi hw 11 rfl) (wi hw 12 rfl) (wi hw 7 rfl) (wi hw 14 rfl) (by decide) e0 (a := a1) (argsL := [(.ref x1), (.int (0 : Int32)), (.int ((n1 : Nat).toInt32)), .null]) (rest := []) (W := 0) (rm_in4 l Z a0 hw a1 x1 (0 : Int32) ((n1 : Nat).toInt32) n1 gc G1 h0 n0 Z0 P0 P1 P2 P3 P4 ne_x1_a1 ge_a1 rfl (len_toInt (by omega)) (by omega) (by omega) hgc O2 hG1) (hb hby d2_6) (by rw [hml]; rfl) rfl pd3 rfl rfl (by decide) (by decide) (by decide) (by decide) ?_
  intro v1 T1 L1 X1 hQ1
  obtain ⟨h1, e1⟩ : ∃ z, T1.heap = z := ⟨_, rfl⟩
  rw [e1] at hQ1
  obtain ⟨b1_1, rfl, Nq1, Kq1, gqb1_1, sqb1_1, Fq0_1, Fq1_1, Fq2_1⟩ := hQ1
  have N1 := Fr.app N0 Nq1
  have s2 : h0.size ≤ b1_1 := Nat.le_trans K0.1 sqb1_1
  refine Go.void (pc' := 9) rfl ?_
  refine Go.retV X1 hx hlk hret (hb hby d2_9) rfl (by decide) (by decide) ?_
  rw [e1]
  exact ⟨b1_1, rfl, N1, (K0.trans Kq1 (allS (Or.inl (List.mem_of_getElem? (i := 0) rfl)) all0)), gqb1_1, s2, Fq0_1, Fq1_1, Fq2_1⟩
theorem d12_0 : decode jdk_42_method_152_code 0 = .ok (.getstatic 38, 3) := by decide +kernel
theorem d12_3 : decode jdk_42_method_152_code 3 = .ok (.ifCond .eq 10, 3) := by decide +kernel
theorem d12_6 : decode jdk_42_method_152_code 6 = .ok (.aload_n 0, 1) := by decide +kernel
theorem d12_7 : decode jdk_42_method_152_code 7 = .ok (.getfield 15, 3) := by decide +kernel
theorem d12_10 : decode jdk_42_method_152_code 10 = .ok (.goto 4, 3) := by decide +kernel
theorem d12_14 : decode jdk_42_method_152_code 14 = .ok (.ireturn, 1) := by decide +kernel
theorem ef_rm_coder (m : MethodId) (x0 : Addr) : entryFrame m #[(.ref x0)] 1 = mkF m 0 #[.val (.ref x0)] [] := by first | (simp [entryFrame, mkF, argsToLocals, Value.category]; done) | rfl
abbrev Q_rm_coder (Z : State) (a1 : Addr) (G1 : Int32) (h0 : Heap) (n0 : Nat) : Option Value → Heap → List Loc → Prop := fun v h L => v = some (.int (0 : Int32)) ∧ Fr n0 L ∧ h = h0
set_option maxRecDepth 65536 in
set_option maxHeartbeats 40000000 in
theorem rm_coder (l : Launch) (Z : State) (a0 : Array Value) (hw : ∀ d ∈ tables_1, d.before a0 Z = true) (a1 : Addr) (G1 : Int32) (h0 : Heap) (n0 : Nat) (Z0 : n0 ≤ h0.size) (P0 : Fld Z h0 a1 "java/lang/String" "coder" "B" (.int (0 : Int32))) (P1 : Old Z n0 h0) (O2 : Sta Z Z.heap "java/lang/String" "COMPACT_STRINGS" "Z" (.int G1)) (hG1 : ¬ G1.toInt = 0) :
    Con l Z (⟨"java/lang/String", "coder", "()B"⟩ : MethodName) jdk_42_method_152_code 1 (some .byte) ({ frames := 0, cells := 0, slots := 0, locals := 0 } : Room) #[(.ref a1)] h0 (Q_rm_coder Z a1 G1 h0 n0) := by
  refine meet (y := (⟨"java/lang/String", "coder", "()B"⟩ : MethodName)) (Q := Q_rm_coder Z a1 G1 h0 n0) (plainFor_of_name pn_java_lang_String) (fun m => ef_rm_coder m a1) ?_
  intro p e s m below meth c T0 hx hby hml hZ hown hnm hret hlk X0 e0
  have N0 := Fr.nil n0
  obtain ⟨T1, X1, e1, st1⟩ := getS (host := "") X0 hx hZ hown (wi hw 18 rfl) Via.refl e0 (O2.ext P1.2) (g := (mkF m 0 #[.val (.ref a1)] [])) rfl (hb hby d12_0)
  refine Go.of st1 ?_
  show Go p.tables e below s _ _ _ (T1.setTop (mkF m 3 #[.val (.ref a1)] [(.int G1)]))
  have hc3 : ¬ (G1.toInt = (0 : Int)) := hG1
  refine g_ifNo X1 hx hby d12_3 (pc' := 6) (feq (show ¬ (G1 = (0 : Int32)) from fun q => hc3 (congrArg Int32.toInt q))).1 rfl ?_
  refine g_aloadN X1 hx hby d12_6 (pc' := 7) rfl rfl rfl ?_
  refine g_getf X1 hx hby hZ hown (host := "") (Or.inl (wi hw 30 rfl)) Via.refl e1 P0 d12_7 (pc' := 10) rfl ?_
  intro T2 X2 e2
  refine g_goto X2 hx hby d12_10 (pc' := 14) (by decide) (by decide) ?_
  refine Go.retZ X2 hx hlk hret (by simp) (hb hby d12_14) (by decide) (by decide) ?_
  exact ⟨rfl, N0, e2⟩
theorem d11_0 : decode jdk_42_method_54_code 0 = .ok (.aload_n 0, 1) := by decide +kernel
theorem d11_1 : decode jdk_42_method_54_code 1 = .ok (.getfield 9, 3) := by decide +kernel
theorem d11_4 : decode jdk_42_method_54_code 4 = .ok (.arraylength, 1) := by decide +kernel
theorem d11_5 : decode jdk_42_method_54_code 5 = .ok (.aload_n 0, 1) := by decide +kernel
theorem d11_6 : decode jdk_42_method_54_code 6 = .ok (.invokevirtual 335, 3) := by decide +kernel
theorem pd4 : parseMethodDescriptor "()B" = some ⟨[], some .byte⟩ := by decide +kernel
theorem d11_9 : decode jdk_42_method_54_code 9 = .ok (.ishr, 1) := by decide +kernel
theorem d11_10 : decode jdk_42_method_54_code 10 = .ok (.ireturn, 1) := by decide +kernel
theorem ef_rm_len (m : MethodId) (x0 : Addr) : entryFrame m #[(.ref x0)] 1 = mkF m 0 #[.val (.ref x0)] [] := by first | (simp [entryFrame, mkF, argsToLocals, Value.category]; done) | rfl
abbrev Q_rm_len (Z : State) (a1 : Addr) (x1 : Addr) (n1 : Nat) (gc : Nat → Int32) (G1 : Int32) (h0 : Heap) (n0 : Nat) : Option Value → Heap → List Loc → Prop := fun v h L => v = some (.int ((n1 : Nat).toInt32)) ∧ Fr n0 L ∧ h = h0
set_option maxRecDepth 65536 in
set_option maxHeartbeats 40000000 in
theorem rm_len (l : Launch) (Z : State) (a0 : Array Value) (hw : ∀ d ∈ tables_1, d.before a0 Z = true) (a1 : Addr) (x1 : Addr) (n1 : Nat) (gc : Nat → Int32) (G1 : Int32) (h0 : Heap) (n0 : Nat) (Z0 : n0 ≤ h0.size) (P0 : Exa Z h0 a1 "java/lang/String") (P1 : Fld Z h0 a1 "java/lang/String" "value" "[B" (.ref x1)) (P2 : Fld Z h0 a1 "java/lang/String" "coder" "B" (.int (0 : Int32))) (P3 : ArF Z h0 x1 .byte n1 (fun i => .int ((own_lo gc) i))) (P4 : Old Z n0 h0) (O2 : Sta Z Z.heap "java/lang/String" "COMPACT_STRINGS" "Z" (.int G1)) (hG1 : ¬ G1.toInt = 0) :
    Con l Z (⟨"java/lang/String", "length", "()I"⟩ : MethodName) jdk_42_method_54_code 1 (some .int) ({ frames := 1, cells := 0, slots := 0, locals := 13 } : Room) #[(.ref a1)] h0 (Q_rm_len Z a1 x1 n1 gc G1 h0 n0) := by
  refine meet (y := (⟨"java/lang/String", "length", "()I"⟩ : MethodName)) (Q := Q_rm_len Z a1 x1 n1 gc G1 h0 n0) (plainFor_of_name pn_java_lang_String) (fun m => ef_rm_len m a1) ?_
  intro p e s m below meth c T0 hx hby hml hZ hown hnm hret hlk X0 e0
  have N0 := Fr.nil n0
  refine g_aloadN X0 hx hby d11_0 (pc' := 1) rfl rfl rfl ?_
  refine g_getf X0 hx hby hZ hown (host := "") (Or.inl (wi hw 32 rfl)) Via.refl e0 P1 d11_1 (pc' := 4) rfl ?_
  intro T1 X1 e1
  refine Go.alen X1 hx hZ e1 P3 (z := ((n1 : Nat).toInt32)) rfl (hb hby d11_4) (pc' := 5) rfl ?_
  refine g_aloadN X1 hx hby d11_5 (pc' := 6) rfl rfl rfl ?_
  refine Go.callV X1 hx hZ hown (wi hw 49 rfl) (wi hw 50 rfl) (notFace_of_selects (args := #[]) (mvT hZ (wi hw 52 rfl))) (wi hw 52 rfl) (wi hw 51 rfl) (wi hw 7 rfl) (wi hw 53 rfl) (by decide) e1 (a := a1) (argsL := []) (rest := [(.int ((n1 : Nat).toInt32))]) (W := 1) P0 (rm_coder l Z a0 hw a1 G1 h0 n0 Z0 P2 P4 O2 hG1) (hb hby d11_6) (by rw [hml]; rfl) rfl pd4 rfl rfl (by decide) (by decide) (by decide) (by decide) ?_
  intro v2 T2 L2 X2 hQ2
  obtain ⟨rfl, Nq2, hh2⟩ := hQ2
  have N2 := Fr.app N0 Nq2
  refine Go.push (pc' := 9) rfl ?_
  refine g_ishr X2 hx hby d11_9 (pc' := 10) rfl rfl ?_
  refine Go.retI X2 hx hlk hret (hb hby d11_10) (by decide) (by decide) ?_
  exact ⟨(by rw [own_shr0]), N2, hh2⟩
theorem d14_0 : decode jdk_42_method_154_code 0 = .ok (.getstatic 38, 3) := by decide +kernel
theorem d14_3 : decode jdk_42_method_154_code 3 = .ok (.ifCond .eq 14, 3) := by decide +kernel
theorem d14_6 : decode jdk_42_method_154_code 6 = .ok (.aload_n 0, 1) := by decide +kernel
theorem d14_7 : decode jdk_42_method_154_code 7 = .ok (.getfield 15, 3) := by decide +kernel
theorem d14_10 : decode jdk_42_method_154_code 10 = .ok (.ifCond .ne 7, 3) := by decide +kernel
theorem d14_13 : decode jdk_42_method_154_code 13 = .ok (.iconst 1, 1) := by decide +kernel
theorem d14_14 : decode jdk_42_method_154_code 14 = .ok (.goto 4, 3) := by decide +kernel
theorem d14_18 : decode jdk_42_method_154_code 18 = .ok (.ireturn, 1) := by decide +kernel
theorem ef_rm_lat (m : MethodId) (x0 : Addr) : entryFrame m #[(.ref x0)] 1 = mkF m 0 #[.val (.ref x0)] [] := by first | (simp [entryFrame, mkF, argsToLocals, Value.category]; done) | rfl
abbrev Q_rm_lat (Z : State) (a1 : Addr) (G1 : Int32) (h0 : Heap) (n0 : Nat) : Option Value → Heap → List Loc → Prop := fun v h L => v = some (.int (1 : Int32)) ∧ Fr n0 L ∧ h = h0
set_option maxRecDepth 65536 in
set_option maxHeartbeats 40000000 in
theorem rm_lat (l : Launch) (Z : State) (a0 : Array Value) (hw : ∀ d ∈ tables_1, d.before a0 Z = true) (a1 : Addr) (G1 : Int32) (h0 : Heap) (n0 : Nat) (Z0 : n0 ≤ h0.size) (P0 : Fld Z h0 a1 "java/lang/String" "coder" "B" (.int (0 : Int32))) (P1 : Old Z n0 h0) (O2 : Sta Z Z.heap "java/lang/String" "COMPACT_STRINGS" "Z" (.int G1)) (hG1 : ¬ G1.toInt = 0) :
    Con l Z (⟨"java/lang/String", "isLatin1", "()Z"⟩ : MethodName) jdk_42_method_154_code 1 (some .boolean) ({ frames := 0, cells := 0, slots := 0, locals := 0 } : Room) #[(.ref a1)] h0 (Q_rm_lat Z a1 G1 h0 n0) := by
  refine meet (y := (⟨"java/lang/String", "isLatin1", "()Z"⟩ : MethodName)) (Q := Q_rm_lat Z a1 G1 h0 n0) (plainFor_of_name pn_java_lang_String) (fun m => ef_rm_lat m a1) ?_
  intro p e s m below meth c T0 hx hby hml hZ hown hnm hret hlk X0 e0
  have N0 := Fr.nil n0
  obtain ⟨T1, X1, e1, st1⟩ := getS (host := "") X0 hx hZ hown (wi hw 18 rfl) Via.refl e0 (O2.ext P1.2) (g := (mkF m 0 #[.val (.ref a1)] [])) rfl (hb hby d14_0)
  refine Go.of st1 ?_
  show Go p.tables e below s _ _ _ (T1.setTop (mkF m 3 #[.val (.ref a1)] [(.int G1)]))
  have hc3 : ¬ (G1.toInt = (0 : Int)) := hG1
  refine g_ifNo X1 hx hby d14_3 (pc' := 6) (feq (show ¬ (G1 = (0 : Int32)) from fun q => hc3 (congrArg Int32.toInt q))).1 rfl ?_
  refine g_aloadN X1 hx hby d14_6 (pc' := 7) rfl rfl rfl ?_
  refine g_getf X1 hx hby hZ hown (host := "") (Or.inl (wi hw 30 rfl)) Via.refl e1 P0 d14_7 (pc' := 10) rfl ?_
  intro T2 X2 e2
  have hc10 : (0 : Int) = (0 : Int) := by decide
  refine g_ifNo X2 hx hby d14_10 (pc' := 13) (teq (show (0 : Int32) = (0 : Int32) from Int32.toInt_inj.mp hc10)).2 rfl ?_
  refine g_iconst X2 hx hby d14_13 (pc' := 14) rfl (z := (1 : Int32)) rfl ?_
  refine g_goto X2 hx hby d14_14 (pc' := 18) (by decide) (by decide) ?_
  refine Go.retZ X2 hx hlk hret (by simp) (hb hby d14_18) (by decide) (by decide) ?_
  exact ⟨rfl, N0, e2⟩
theorem d17_0 : decode jdk_41_method_11_code 0 = .ok (.iload_n 0, 1) := by decide +kernel
theorem d17_1 : decode jdk_41_method_11_code 1 = .ok (.ifCond .lt 8, 3) := by decide +kernel
theorem d17_4 : decode jdk_41_method_11_code 4 = .ok (.iload_n 0, 1) := by decide +kernel
theorem d17_5 : decode jdk_41_method_11_code 5 = .ok (.iload_n 1, 1) := by decide +kernel
theorem d17_6 : decode jdk_41_method_11_code 6 = .ok (.if_icmp .lt 10, 3) := by decide +kernel
theorem d17_16 : decode jdk_41_method_11_code 16 = .ok (.iload_n 0, 1) := by decide +kernel
theorem d17_17 : decode jdk_41_method_11_code 17 = .ok (.ireturn, 1) := by decide +kernel
theorem ef_rm_ciN (m : MethodId) (x0 : Int32) (x1 : Int32) : entryFrame m #[(.int x0), (.int x1), .null] 3 = mkF m 0 #[.val (.int x0), .val (.int x1), .val .null] [] := by first | (simp [entryFrame, mkF, argsToLocals, Value.category]; done) | rfl
theorem pn_jdk_internal_util_Preconditions : plainName "jdk/internal/util/Preconditions" = true := by first | (simp [plainName, overriddenIn]; done) | decide +kernel
abbrev Q_rm_ciN (Z : State) (i1 : Int32) (i2 : Int32) (h0 : Heap) (n0 : Nat) : Option Value → Heap → List Loc → Prop := fun v h L => v = some (.int i1) ∧ Fr n0 L ∧ h = h0
set_option maxRecDepth 65536 in
set_option maxHeartbeats 40000000 in
theorem rm_ciN (l : Launch) (Z : State) (a0 : Array Value) (hw : ∀ d ∈ tables_1, d.before a0 Z = true) (i1 : Int32) (i2 : Int32) (h0 : Heap) (n0 : Nat) (Z0 : n0 ≤ h0.size) (y1 : 0 ≤ i1.toInt) (y2 : i1.toInt < i2.toInt) :
    Con l Z (⟨"jdk/internal/util/Preconditions", "checkIndex", "(IILjava/util/function/BiFunction;)I"⟩ : MethodName) jdk_41_method_11_code 3 (some .int) ({ frames := 0, cells := 0, slots := 0, locals := 0 } : Room) #[(.int i1), (.int i2), .null] h0 (Q_rm_ciN Z i1 i2 h0 n0) := by
  refine meet (y := (⟨"jdk/internal/util/Preconditions", "checkIndex", "(IILjava/util/function/BiFunction;)I"⟩ : MethodName)) (Q := Q_rm_ciN Z i1 i2 h0 n0) (plainFor_of_name pn_jdk_internal_util_Preconditions) (fun m => ef_rm_ciN m i1 i2) ?_
  intro p e s m below meth c T0 hx hby hml hZ hown hnm hret hlk X0 e0
  have N0 := Fr.nil n0
  refine g_iloadN X0 hx hby d17_0 (pc' := 1) rfl rfl ?_
  have hc1 : ¬ (i1.toInt < (0 : Int)) := by omega
  refine g_ifNo X0 hx hby d17_1 (pc' := 4) (flt (show ¬ (i1 < (0 : Int32)) from fun q => hc1 (Int32.lt_iff_toInt_lt.mp q))).1 rfl ?_
  refine g_iloadN X0 hx hby d17_4 (pc' := 5) rfl rfl ?_
  refine g_iloadN X0 hx hby d17_5 (pc' := 6) rfl rfl ?_
  have hc6 : i1.toInt < i2.toInt := by omega
  refine g_icmpYes X0 hx hby d17_6 (pc' := 16) (tlt (show i1 < i2 from Int32.lt_iff_toInt_lt.mpr hc6)).1 (by decide) (by decide) ?_
  refine g_iloadN X0 hx hby d17_16 (pc' := 17) rfl rfl ?_
  refine Go.retI X0 hx hlk hret (hb hby d17_17) (by decide) (by decide) ?_
  exact ⟨rfl, N0, e0⟩
theorem ef_rm_ciR (m : MethodId) (x0 : Int32) (x1 : Int32) (x2 : Addr) : entryFrame m #[(.int x0), (.int x1), (.ref x2)] 3 = mkF m 0 #[.val (.int x0), .val (.int x1), .val (.ref x2)] [] := by first | (simp [entryFrame, mkF, argsToLocals, Value.category]; done) | rfl
abbrev Q_rm_ciR (Z : State) (i1 : Int32) (i2 : Int32) (y3 : Addr) (h0 : Heap) (n0 : Nat) : Option Value → Heap → List Loc → Prop := fun v h L => v = some (.int i1) ∧ Fr n0 L ∧ h = h0
set_option maxRecDepth 65536 in
set_option maxHeartbeats 40000000 in
theorem rm_ciR (l : Launch) (Z : State) (a0 : Array Value) (hw : ∀ d ∈ tables_1, d.before a0 Z = true) (i1 : Int32) (i2 : Int32) (y3 : Addr) (h0 : Heap) (n0 : Nat) (Z0 : n0 ≤ h0.size) (y1 : 0 ≤ i1.toInt) (y2 : i1.toInt < i2.toInt) :
    Con l Z (⟨"jdk/internal/util/Preconditions", "checkIndex", "(IILjava/util/function/BiFunction;)I"⟩ : MethodName) jdk_41_method_11_code 3 (some .int) ({ frames := 0, cells := 0, slots := 0, locals := 0 } : Room) #[(.int i1), (.int i2), (.ref y3)] h0 (Q_rm_ciR Z i1 i2 y3 h0 n0) := by
  refine meet (y := (⟨"jdk/internal/util/Preconditions", "checkIndex", "(IILjava/util/function/BiFunction;)I"⟩ : MethodName)) (Q := Q_rm_ciR Z i1 i2 y3 h0 n0) (plainFor_of_name pn_jdk_internal_util_Preconditions) (fun m => ef_rm_ciR m i1 i2 y3) ?_
  intro p e s m below meth c T0 hx hby hml hZ hown hnm hret hlk X0 e0
  have N0 := Fr.nil n0
  refine g_iloadN X0 hx hby d17_0 (pc' := 1) rfl rfl ?_
  have hc1 : ¬ (i1.toInt < (0 : Int)) := by omega
  refine g_ifNo X0 hx hby d17_1 (pc' := 4) (flt (show ¬ (i1 < (0 : Int32)) from fun q => hc1 (Int32.lt_iff_toInt_lt.mp q))).1 rfl ?_
  refine g_iloadN X0 hx hby d17_4 (pc' := 5) rfl rfl ?_
  refine g_iloadN X0 hx hby d17_5 (pc' := 6) rfl rfl ?_
  have hc6 : i1.toInt < i2.toInt := by omega
  refine g_icmpYes X0 hx hby d17_6 (pc' := 16) (tlt (show i1 < i2 from Int32.lt_iff_toInt_lt.mpr hc6)).1 (by decide) (by decide) ?_
  refine g_iloadN X0 hx hby d17_16 (pc' := 17) rfl rfl ?_
  refine Go.retI X0 hx hlk hret (hb hby d17_17) (by decide) (by decide) ?_
  exact ⟨rfl, N0, e0⟩
theorem d16_0 : decode jdk_42_method_155_code 0 = .ok (.iload_n 0, 1) := by decide +kernel
theorem d16_1 : decode jdk_42_method_155_code 1 = .ok (.iload_n 1, 1) := by decide +kernel
theorem d16_2 : decode jdk_42_method_155_code 2 = .ok (.getstatic 1053, 3) := by decide +kernel
theorem d16_5 : decode jdk_42_method_155_code 5 = .ok (.invokestatic 1059, 3) := by decide +kernel
theorem pd5 : parseMethodDescriptor "(IILjava/util/function/BiFunction;)I" = some ⟨[.int, .int, (.object "java/util/function/BiFunction")], some .int⟩ := by decide +kernel
theorem d16_8 : decode jdk_42_method_155_code 8 = .ok (.pop, 1) := by decide +kernel
theorem d16_9 : decode jdk_42_method_155_code 9 = .ok (.return_, 1) := by decide +kernel
theorem ef_rm_ci (m : MethodId) (x0 : Int32) (x1 : Int32) : entryFrame m #[(.int x0), (.int x1)] 2 = mkF m 0 #[.val (.int x0), .val (.int x1)] [] := by first | (simp [entryFrame, mkF, argsToLocals, Value.category]; done) | rfl
abbrev Q_rm_ci (Z : State) (i1 : Int32) (i2 : Int32) (G3 : Value) (h0 : Heap) (n0 : Nat) : Option Value → Heap → List Loc → Prop := fun v h L => v = none ∧ Fr n0 L ∧ h = h0
set_option maxRecDepth 65536 in
set_option maxHeartbeats 40000000 in
theorem rm_ci (l : Launch) (Z : State) (a0 : Array Value) (hw : ∀ d ∈ tables_1, d.before a0 Z = true) (i1 : Int32) (i2 : Int32) (G3 : Value) (h0 : Heap) (n0 : Nat) (Z0 : n0 ≤ h0.size) (P0 : Old Z n0 h0) (y1 : 0 ≤ i1.toInt) (y2 : i1.toInt < i2.toInt) (O4 : Sta Z Z.heap "jdk/internal/util/Preconditions" "SIOOBE_FORMATTER" "Ljava/util/function/BiFunction;" G3) (rG3 : G3.isRef = true) :
    Con l Z (⟨"java/lang/String", "checkIndex", "(II)V"⟩ : MethodName) jdk_42_method_155_code 2 none ({ frames := 1, cells := 0, slots := 0, locals := 14 } : Room) #[(.int i1), (.int i2)] h0 (Q_rm_ci Z i1 i2 G3 h0 n0) := by
  refine meet (y := (⟨"java/lang/String", "checkIndex", "(II)V"⟩ : MethodName)) (Q := Q_rm_ci Z i1 i2 G3 h0 n0) (plainFor_of_name pn_java_lang_String) (fun m => ef_rm_ci m i1 i2) ?_
  intro p e s m below meth c T0 hx hby hml hZ hown hnm hret hlk X0 e0
  have N0 := Fr.nil n0
  refine g_iloadN X0 hx hby d16_0 (pc' := 1) rfl rfl ?_
  refine g_iloadN X0 hx hby d16_1 (pc' := 2) rfl rfl ?_
  rcases ref_cases rG3 with rfl | ⟨ga, rfl⟩
  · show Go p.tables e below s _ _ _ (T0.setTop (mkF m 2 #[.val (.int i1), .val (.int i2)] [(.int i2), (.int i1)]))
    obtain ⟨T1, X1, e1, st1⟩ := getS (host := "") X0 hx hZ hown (wi hw 71 rfl) Via.refl e0 (O4.ext P0.2) (g := (mkF m 2 #[.val (.int i1), .val (.int i2)] [(.int i2), (.int i1)])) rfl (hb hby d16_2)
    refine Go.of st1 ?_
    show Go p.tables e below s _ _ _ (T1.setTop (mkF m 5 #[.val (.int i1), .val (.int i2)] [.null, (.int i2), (.int i1)]))
    refine Go.callS X1 hx hZ hown (wi hw 73 rfl) (wi hw 74 rfl) (wi hw 72 rfl) (wi hw 75 rfl) (by decide) e1 (argsL := [(.int i1), (.int i2), .null]) (rest := []) (W := 0) (rm_ciN l Z a0 hw i1 i2 h0 n0 Z0 y1 y2) (hb hby d16_5) (by rw [hml]; rfl) rfl pd5 rfl rfl (by decide) (by decide) (by decide) (by decide) ?_
    intro v2 T2 L2 X2 hQ2
    obtain ⟨rfl, Nq2, hh2⟩ := hQ2
    have N2 := Fr.app N0 Nq2
    refine Go.push (pc' := 8) rfl ?_
    refine g_pop X2 hx hby d16_8 (pc' := 9) rfl rfl ?_
    refine Go.retV X2 hx hlk hret (hb hby d16_9) rfl (by decide) (by decide) ?_
    exact ⟨rfl, N2, hh2⟩
  · show Go p.tables e below s _ _ _ (T0.setTop (mkF m 2 #[.val (.int i1), .val (.int i2)] [(.int i2), (.int i1)]))
    obtain ⟨T3, X3, e3, st3⟩ := getS (host := "") X0 hx hZ hown (wi hw 71 rfl) Via.refl e0 (O4.ext P0.2) (g := (mkF m 2 #[.val (.int i1), .val (.int i2)] [(.int i2), (.int i1)])) rfl (hb hby d16_2)
    refine Go.of st3 ?_
    show Go p.tables e below s _ _ _ (T3.setTop (mkF m 5 #[.val (.int i1), .val (.int i2)] [(.ref ga), (.int i2), (.int i1)]))
    refine Go.callS X3 hx hZ hown (wi hw 73 rfl) (wi hw 74 rfl) (wi hw 72 rfl) (wi hw 75 rfl) (by decide) e3 (argsL := [(.int i1), (.int i2), (.ref ga)]) (rest := []) (W := 0) (rm_ciR l Z a0 hw i1 i2 ga h0 n0 Z0 y1 y2) (hb hby d16_5) (by rw [hml]; rfl) rfl pd5 rfl rfl (by decide) (by decide) (by decide) (by decide) ?_
    intro v4 T4 L4 X4 hQ4
    obtain ⟨rfl, Nq4, hh4⟩ := hQ4
    have N4 := Fr.app N0 Nq4
    refine Go.push (pc' := 8) rfl ?_
    refine g_pop X4 hx hby d16_8 (pc' := 9) rfl rfl ?_
    refine Go.retV X4 hx hlk hret (hb hby d16_9) rfl (by decide) (by decide) ?_
    exact ⟨rfl, N4, hh4⟩
theorem d15_0 : decode jdk_43_method_2_code 0 = .ok (.iload_n 1, 1) := by decide +kernel
theorem d15_1 : decode jdk_43_method_2_code 1 = .ok (.aload_n 0, 1) := by decide +kernel
theorem d15_2 : decode jdk_43_method_2_code 2 = .ok (.arraylength, 1) := by decide +kernel
theorem d15_3 : decode jdk_43_method_2_code 3 = .ok (.invokestatic 9, 3) := by decide +kernel
theorem pd6 : parseMethodDescriptor "(II)V" = some ⟨[.int, .int], none⟩ := by decide +kernel
theorem d15_6 : decode jdk_43_method_2_code 6 = .ok (.aload_n 0, 1) := by decide +kernel
theorem d15_7 : decode jdk_43_method_2_code 7 = .ok (.iload_n 1, 1) := by decide +kernel
theorem d15_8 : decode jdk_43_method_2_code 8 = .ok (.baload, 1) := by decide +kernel
theorem d15_9 : decode jdk_43_method_2_code 9 = .ok (.sipush 255, 3) := by decide +kernel
theorem d15_12 : decode jdk_43_method_2_code 12 = .ok (.iand, 1) := by decide +kernel
theorem d15_13 : decode jdk_43_method_2_code 13 = .ok (.i2c, 1) := by decide +kernel
theorem d15_14 : decode jdk_43_method_2_code 14 = .ok (.ireturn, 1) := by decide +kernel
theorem ef_rm_cl (m : MethodId) (x0 : Addr) (x1 : Int32) : entryFrame m #[(.ref x0), (.int x1)] 2 = mkF m 0 #[.val (.ref x0), .val (.int x1)] [] := by first | (simp [entryFrame, mkF, argsToLocals, Value.category]; done) | rfl
theorem pn_java_lang_StringLatin1 : plainName "java/lang/StringLatin1" = true := by first | (simp [plainName, overriddenIn]; done) | decide +kernel
abbrev Q_rm_cl (Z : State) (x1 : Addr) (i1 : Int32) (n1 : Nat) (gc : Nat → Int32) (k1 : Nat) (G3 : Value) (h0 : Heap) (n0 : Nat) : Option Value → Heap → List Loc → Prop := fun v h L => v = some (.int (gc k1)) ∧ Fr n0 L ∧ h = h0
set_option maxRecDepth 65536 in
set_option maxHeartbeats 40000000 in
theorem rm_cl (l : Launch) (Z : State) (a0 : Array Value) (hw : ∀ d ∈ tables_1, d.before a0 Z = true) (x1 : Addr) (i1 : Int32) (n1 : Nat) (gc : Nat → Int32) (k1 : Nat) (G3 : Value) (h0 : Heap) (n0 : Nat) (Z0 : n0 ≤ h0.size) (P0 : ArF Z h0 x1 .byte n1 (fun i => .int ((own_lo gc) i))) (P1 : Old Z n0 h0) (hk : i1.toInt = (k1 : Int)) (hkn : k1 < n1) (hn1 : 1 ≤ n1) (hn3 : n1 ≤ 3) (hgc : ∀ i, i < n1 → 0 ≤ (gc i).toInt ∧ (gc i).toInt ≤ 255) (O4 : Sta Z Z.heap "jdk/internal/util/Preconditions" "SIOOBE_FORMATTER" "Ljava/util/function/BiFunction;" G3) (rG3 : G3.isRef = true) :
    Con l Z (⟨"java/lang/StringLatin1", "charAt", "([BI)C"⟩ : MethodName) jdk_43_method_2_code 2 (some .char) ({ frames := 2, cells := 0, slots := 0, locals := 27 } : Room) #[(.ref x1), (.int i1)] h0 (Q_rm_cl Z x1 i1 n1 gc k1 G3 h0 n0) := by
  refine meet (y := (⟨"java/lang/StringLatin1", "charAt", "([BI)C"⟩ : MethodName)) (Q := Q_rm_cl Z x1 i1 n1 gc k1 G3 h0 n0) (plainFor_of_name pn_java_lang_StringLatin1) (fun m => ef_rm_cl m x1 i1) ?_
  intro p e s m below meth c T0 hx hby hml hZ hown hnm hret hlk X0 e0
  have N0 := Fr.nil n0
  refine g_iloadN X0 hx hby d15_0 (pc' := 1) rfl rfl ?_
  refine g_aloadN X0 hx hby d15_1 (pc' := 2) rfl rfl rfl ?_
  refine Go.alen X0 hx hZ e0 P0 (z := ((n1 : Nat).toInt32)) rfl (hb hby d15_2) (pc' := 3) rfl ?_
  refine Go.callS X0 hx hZ hown (wi hw 68 rfl) (wi hw 69 rfl) (wi hw 7 rfl) (wi hw 70 rfl) (by decide) e0 (argsL := [(.int i1), (.int ((n1 : Nat).toInt32))]) (rest := []) (W := 0) (rm_ci l Z a0 hw i1 ((n1 : Nat).toInt32) G3 h0 n0 Z0 P1 (by omega) (by have q := len_toInt (n := n1) (by omega); omega) O4 rG3) (hb hby d15_3) (by rw [hml]; rfl) rfl pd6 rfl rfl (by decide) (by decide) (by decide) (by decide) ?_
  intro v1 T1 L1 X1 hQ1
  obtain ⟨rfl, Nq1, hh1⟩ := hQ1
  have N1 := Fr.app N0 Nq1
  refine Go.void (pc' := 6) rfl ?_
  refine g_aloadN X1 hx hby d15_6 (pc' := 7) rfl rfl rfl ?_
  refine g_iloadN X1 hx hby d15_7 (pc' := 8) rfl rfl ?_
  refine Go.baload X1 hx hZ hh1 P0 (k := k1) hk hkn rfl (hb hby d15_8) (pc' := 9) rfl ?_
  refine g_sipush X1 hx hby d15_9 (pc' := 12) rfl (z := (255 : Int32)) rfl ?_
  refine g_iand X1 hx hby d15_12 (pc' := 13) rfl rfl ?_
  refine g_i2c X1 hx hby d15_13 (pc' := 14) rfl rfl ?_
  refine Go.retZ X1 hx hlk hret (by simp) (hb hby d15_14) (by decide) (by decide) ?_
  exact ⟨(by rw [own_chr gc k1 (hgc k1 hkn)]), N1, hh1⟩
theorem d13_0 : decode jdk_42_method_56_code 0 = .ok (.aload_n 0, 1) := by decide +kernel
theorem d13_1 : decode jdk_42_method_56_code 1 = .ok (.invokevirtual 492, 3) := by decide +kernel
theorem pd7 : parseMethodDescriptor "()Z" = some ⟨[], some .boolean⟩ := by decide +kernel
theorem d13_4 : decode jdk_42_method_56_code 4 = .ok (.ifCond .eq 12, 3) := by decide +kernel
theorem d13_7 : decode jdk_42_method_56_code 7 = .ok (.aload_n 0, 1) := by decide +kernel
theorem d13_8 : decode jdk_42_method_56_code 8 = .ok (.getfield 9, 3) := by decide +kernel
theorem d13_11 : decode jdk_42_method_56_code 11 = .ok (.iload_n 1, 1) := by decide +kernel
theorem d13_12 : decode jdk_42_method_56_code 12 = .ok (.invokestatic 495, 3) := by decide +kernel
theorem pd8 : parseMethodDescriptor "([BI)C" = some ⟨[(.array .byte), .int], some .char⟩ := by decide +kernel
theorem d13_15 : decode jdk_42_method_56_code 15 = .ok (.ireturn, 1) := by decide +kernel
theorem ef_rm_ca (m : MethodId) (x0 : Addr) (x1 : Int32) : entryFrame m #[(.ref x0), (.int x1)] 2 = mkF m 0 #[.val (.ref x0), .val (.int x1)] [] := by first | (simp [entryFrame, mkF, argsToLocals, Value.category]; done) | rfl
abbrev Q_rm_ca (Z : State) (a1 : Addr) (i1 : Int32) (x1 : Addr) (n1 : Nat) (gc : Nat → Int32) (k1 : Nat) (G1 : Int32) (G3 : Value) (h0 : Heap) (n0 : Nat) : Option Value → Heap → List Loc → Prop := fun v h L => v = some (.int (gc k1)) ∧ Fr n0 L ∧ h = h0
set_option maxRecDepth 65536 in
set_option maxHeartbeats 40000000 in
theorem rm_ca (l : Launch) (Z : State) (a0 : Array Value) (hw : ∀ d ∈ tables_1, d.before a0 Z = true) (a1 : Addr) (i1 : Int32) (x1 : Addr) (n1 : Nat) (gc : Nat → Int32) (k1 : Nat) (G1 : Int32) (G3 : Value) (h0 : Heap) (n0 : Nat) (Z0 : n0 ≤ h0.size) (P0 : Exa Z h0 a1 "java/lang/String") (P1 : Fld Z h0 a1 "java/lang/String" "value" "[B" (.ref x1)) (P2 : Fld Z h0 a1 "java/lang/String" "coder" "B" (.int (0 : Int32))) (P3 : ArF Z h0 x1 .byte n1 (fun i => .int ((own_lo gc) i))) (P4 : Old Z n0 h0) (hk : i1.toInt = (k1 : Int)) (hkn : k1 < n1) (hn1 : 1 ≤ n1) (hn3 : n1 ≤ 3) (hgc : ∀ i, i < n1 → 0 ≤ (gc i).toInt ∧ (gc i).toInt ≤ 255) (O2 : Sta Z Z.heap "java/lang/String" "COMPACT_STRINGS" "Z" (.int G1)) (hG1 : ¬ G1.toInt = 0) (O4 : Sta Z Z.heap "jdk/internal/util/Preconditions" "SIOOBE_FORMATTER" "Ljava/util/function/BiFunction;" G3) (rG3 : G3.isRef = true) :
    Con l Z (⟨"java/lang/String", "charAt", "(I)C"⟩ : MethodName) jdk_42_method_56_code 2 (some .char) ({ frames := 3, cells := 0, slots := 0, locals := 40 } : Room) #[(.ref a1), (.int i1)] h0 (Q_rm_ca Z a1 i1 x1 n1 gc k1 G1 G3 h0 n0) := by
  refine meet (y := (⟨"java/lang/String", "charAt", "(I)C"⟩ : MethodName)) (Q := Q_rm_ca Z a1 i1 x1 n1 gc k1 G1 G3 h0 n0) (plainFor_of_name pn_java_lang_String) (fun m => ef_rm_ca m a1 i1) ?_
  intro p e s m below meth c T0 hx hby hml hZ hown hnm hret hlk X0 e0
  have N0 := Fr.nil n0
  refine g_aloadN X0 hx hby d13_0 (pc' := 1) rfl rfl rfl ?_
  refine Go.callV X0 hx hZ hown (wi hw 59 rfl) (wi hw 60 rfl) (notFace_of_selects (args := #[]) (mvT hZ (wi hw 62 rfl))) (wi hw 62 rfl) (wi hw 61 rfl) (wi hw 7 rfl) (wi hw 63 rfl) (by decide) e0 (a := a1) (argsL := []) (rest := []) (W := 0) P0 (rm_lat l Z a0 hw a1 G1 h0 n0 Z0 P2 P4 O2 hG1) (hb hby d13_1) (by rw [hml]; rfl) rfl pd7 rfl rfl (by decide) (by decide) (by decide) (by decide) ?_
  intro v1 T1 L1 X1 hQ1
  obtain ⟨rfl, Nq1, hh1⟩ := hQ1
  have N1 := Fr.app N0 Nq1
  refine Go.push (pc' := 4) rfl ?_
  have hc4 : ¬ ((1 : Int) = (0 : Int)) := by decide
  refine g_ifNo X1 hx hby d13_4 (pc' := 7) (feq (show ¬ ((1 : Int32) = (0 : Int32)) from fun q => hc4 (congrArg Int32.toInt q))).1 rfl ?_
  refine g_aloadN X1 hx hby d13_7 (pc' := 8) rfl rfl rfl ?_
  refine g_getf X1 hx hby hZ hown (host := "") (Or.inl (wi hw 32 rfl)) Via.refl hh1 P1 d13_8 (pc' := 11) rfl ?_
  intro T2 X2 e2
  refine g_iloadN X2 hx hby d13_11 (pc' := 12) rfl rfl ?_
  refine Go.callS X2 hx hZ hown (wi hw 64 rfl) (wi hw 65 rfl) (wi hw 66 rfl) (wi hw 67 rfl) (by decide) e2 (argsL := [(.ref x1), (.int i1)]) (rest := []) (W := 0) (rm_cl l Z a0 hw x1 i1 n1 gc k1 G3 h0 n0 Z0 P3 P4 hk (by omega) (by omega) (by omega) hgc O4 rG3) (hb hby d13_12) (by rw [hml]; rfl) rfl pd8 rfl rfl (by decide) (by decide) (by decide) (by decide) ?_
  intro v3 T3 L3 X3 hQ3
  obtain ⟨rfl, Nq3, hh3⟩ := hQ3
  have N3 := Fr.app N1 Nq3
  refine Go.push (pc' := 15) rfl ?_
  refine Go.retZ X3 hx hlk hret (by simp) (hb hby d13_15) (by decide) (by decide) ?_
  exact ⟨(by rw [own_nc (hgc k1 hkn)]), N3, hh3⟩
theorem d10_0 : decode prog_18_method_12_code 0 = .ok (.iconst 0, 1) := by decide +kernel
theorem d10_1 : decode prog_18_method_12_code 1 = .ok (.istore_n 1, 1) := by decide +kernel
theorem d10_2 : decode prog_18_method_12_code 2 = .ok (.iload_n 1, 1) := by decide +kernel
theorem d10_3 : decode prog_18_method_12_code 3 = .ok (.aload_n 0, 1) := by decide +kernel
theorem d10_4 : decode prog_18_method_12_code 4 = .ok (.invokevirtual 172, 3) := by decide +kernel
theorem pd9 : parseMethodDescriptor "()I" = some ⟨[], some .int⟩ := by decide +kernel
theorem d10_7 : decode prog_18_method_12_code 7 = .ok (.if_icmp .ge 22, 3) := by decide +kernel
theorem d10_10 : decode prog_18_method_12_code 10 = .ok (.aload_n 0, 1) := by decide +kernel
theorem d10_11 : decode prog_18_method_12_code 11 = .ok (.iload_n 1, 1) := by decide +kernel
theorem d10_12 : decode prog_18_method_12_code 12 = .ok (.invokevirtual 176, 3) := by decide +kernel
theorem pd10 : parseMethodDescriptor "(I)C" = some ⟨[.int], some .char⟩ := by decide +kernel
theorem d10_15 : decode prog_18_method_12_code 15 = .ok (.invokestatic 180, 3) := by decide +kernel
theorem pd11 : parseMethodDescriptor "(C)Z" = some ⟨[.char], some .boolean⟩ := by decide +kernel
theorem d10_18 : decode prog_18_method_12_code 18 = .ok (.ifCond .ne 5, 3) := by decide +kernel
theorem d10_21 : decode prog_18_method_12_code 21 = .ok (.iconst 0, 1) := by decide +kernel
theorem d10_22 : decode prog_18_method_12_code 22 = .ok (.ireturn, 1) := by decide +kernel
theorem d10_23 : decode prog_18_method_12_code 23 = .ok (.iinc 1 1, 3) := by decide +kernel
theorem d10_26 : decode prog_18_method_12_code 26 = .ok (.goto (-24), 3) := by decide +kernel
theorem ef_rm_bl (m : MethodId) (x0 : Addr) : entryFrame m #[(.ref x0)] 2 = mkF m 0 #[.val (.ref x0), .unset] [] := by first | (simp [entryFrame, mkF, argsToLocals, Value.category]; done) | rfl
abbrev Q_rm_bl (Z : State) (a1 : Addr) (x1 : Addr) (n1 : Nat) (gc : Nat → Int32) (j0 : Nat) (G1 : Int32) (G3 : Value) (h0 : Heap) (n0 : Nat) : Option Value → Heap → List Loc → Prop := fun v h L => v = some (.int (0 : Int32)) ∧ Fr n0 L ∧ h = h0
set_option maxRecDepth 65536 in
set_option maxHeartbeats 40000000 in
theorem rm_bl (l : Launch) (Z : State) (a0 : Array Value) (hw : ∀ d ∈ tables_1, d.before a0 Z = true) (a1 : Addr) (x1 : Addr) (n1 : Nat) (gc : Nat → Int32) (j0 : Nat) (G1 : Int32) (G3 : Value) (h0 : Heap) (n0 : Nat) (Z0 : n0 ≤ h0.size) (P0 : Exa Z h0 a1 "java/lang/String") (P1 : Fld Z h0 a1 "java/lang/String" "value" "[B" (.ref x1)) (P2 : Fld Z h0 a1 "java/lang/String" "coder" "B" (.int (0 : Int32))) (P3 : ArF Z h0 x1 .byte n1 (fun i => .int ((own_lo gc) i))) (P4 : Old Z n0 h0) (hj0 : j0 < n1) (hj : ¬ (gc j0).toInt = 32 ∧ ¬ (gc j0).toInt = 9) (hn1 : 1 ≤ n1) (hn3 : n1 ≤ 3) (hgc : ∀ i, i < n1 → 0 ≤ (gc i).toInt ∧ (gc i).toInt ≤ 255) (O2 : Sta Z Z.heap "java/lang/String" "COMPACT_STRINGS" "Z" (.int G1)) (hG1 : ¬ G1.toInt = 0) (O4 : Sta Z Z.heap "jdk/internal/util/Preconditions" "SIOOBE_FORMATTER" "Ljava/util/function/BiFunction;" G3) (rG3 : G3.isRef = true) :
    Con l Z (⟨"com/example/firstfail/firstfail/formats/PlainText", "isBlank", "(Ljava/lang/String;)Z"⟩ : MethodName) prog_18_method_12_code 2 (some .boolean) ({ frames := 4, cells := 0, slots := 0, locals := 53 } : Room) #[(.ref a1)] h0 (Q_rm_bl Z a1 x1 n1 gc j0 G1 G3 h0 n0) := by
  refine meet (y := (⟨"com/example/firstfail/firstfail/formats/PlainText", "isBlank", "(Ljava/lang/String;)Z"⟩ : MethodName)) (Q := Q_rm_bl Z a1 x1 n1 gc j0 G1 G3 h0 n0) (plainFor_of_name pn_com_example_firstfail_firstfail_formats_PlainText) (fun m => ef_rm_bl m a1) ?_
  intro p e s m below meth c T0 hx hby hml hZ hown hnm hret hlk X0 e0
  have N0 := Fr.nil n0
  refine g_iconst X0 hx hby d10_0 (pc' := 1) rfl (z := (0 : Int32)) rfl ?_
  refine g_istoreN X0 hx hby d10_1 (pc' := 2) rfl (L' := #[.val (.ref a1), .val (.int (0 : Int32))]) rfl ?_
  refine Go.loop (α := State × (List Loc) × Int32 × Nat) (P := fun kq x => (fun (Tj2 : State) (Lj2 : List Loc) (iv : Int32) (kd : Nat) => Stand p l e ({ frames := 4, cells := 0, slots := 0, locals := 53 } : Room) s m #[(.ref a1)] below meth c Tj2 Lj2 0 0 ∧ Tj2.heap = h0 ∧ Fr n0 Lj2 ∧ (iv.toInt = (kd : Int) ∧ kd ≤ j0 ∧ kq = j0 - kd)) x.1 x.2.1 x.2.2.1 x.2.2.2) (F := fun x => (fun (Tj2 : State) (Lj2 : List Loc) (iv : Int32) (kd : Nat) => Tj2.setTop (mkF m 2 #[.val (.ref a1), .val (.int iv)] [])) x.1 x.2.1 x.2.2.1 x.2.2.2) ?_ (j0) (T0, _, (0 : Int32), 0) ⟨X0.more (by decide) (by decide), e0, N0, (show (0 : Int32).toInt = (0 : Int) ∧ 0 ≤ j0 ∧ (j0) = j0 - 0 from ⟨rfl, by omega, rfl⟩)⟩
  rintro kq ⟨Tj2, Lj2, iv, kd⟩ hP2 IH2
  obtain ⟨Xj2, ej2, Nj2, hJ2⟩ : Stand p l e ({ frames := 4, cells := 0, slots := 0, locals := 53 } : Room) s m #[(.ref a1)] below meth c Tj2 Lj2 0 0 ∧ Tj2.heap = h0 ∧ Fr n0 Lj2 ∧ (iv.toInt = (kd : Int) ∧ kd ≤ j0 ∧ kq = j0 - kd) := hP2
  show Go p.tables e below s _ _ _ (Tj2.setTop (mkF m 2 #[.val (.ref a1), .val (.int iv)] []))
  obtain ⟨hiv, hkd, hkq⟩ := hJ2
  refine g_iloadN Xj2 hx hby d10_2 (pc' := 3) rfl rfl ?_
  refine g_aloadN Xj2 hx hby d10_3 (pc' := 4) rfl rfl rfl ?_
  refine Go.callV Xj2 hx hZ hown (wi hw 44 rfl) (wi hw 45 rfl) (notFace_of_selects (args := #[]) (mvT hZ (wi hw 47 rfl))) (wi hw 47 rfl) (wi hw 46 rfl) (wi hw 7 rfl) (wi hw 48 rfl) (by decide) ej2 (a := a1) (argsL := []) (rest := [(.int iv)]) (W := 1) P0 (rm_len l Z a0 hw a1 x1 n1 gc G1 h0 n0 Z0 P0 P1 P2 P3 P4 O2 hG1) (hb hby d10_4) (by rw [hml]; rfl) rfl pd9 rfl rfl (by decide) (by decide) (by decide) (by decide) ?_
  intro v1 T1 L1 X1 hQ1
  obtain ⟨rfl, Nq1, hh1⟩ := hQ1
  have N1 := Fr.app Nj2 Nq1
  refine Go.push (pc' := 7) rfl ?_
  have hc7 : iv.toInt < ((n1 : Nat).toInt32).toInt := by have q := len_toInt (n := n1) (by omega); omega
  refine g_icmpNo X1 hx hby d10_7 (pc' := 10) (tlt (show iv < ((n1 : Nat).toInt32) from Int32.lt_iff_toInt_lt.mpr hc7)).2.1 rfl ?_
  refine g_aloadN X1 hx hby d10_10 (pc' := 11) rfl rfl rfl ?_
  refine g_iloadN X1 hx hby d10_11 (pc' := 12) rfl rfl ?_
  refine Go.callV X1 hx hZ hown (wi hw 54 rfl) (wi hw 55 rfl) (notFace_of_selects (args := #[]) (mvT hZ (wi hw 57 rfl))) (wi hw 57 rfl) (wi hw 56 rfl) (wi hw 7 rfl) (wi hw 58 rfl) (by decide) hh1 (a := a1) (argsL := [(.int iv)]) (rest := []) (W := 0) P0 (rm_ca l Z a0 hw a1 iv x1 n1 gc kd G1 G3 h0 n0 Z0 P0 P1 P2 P3 P4 hiv (by omega) (by omega) (by omega) hgc O2 hG1 O4 rG3) (hb hby d10_12) (by rw [hml]; rfl) rfl pd10 rfl rfl (by decide) (by decide) (by decide) (by decide) ?_
  intro v2 T2 L2 X2 hQ2
  obtain ⟨rfl, Nq2, hh2⟩ := hQ2
  have N2 := Fr.app N1 Nq2
  refine Go.push (pc' := 15) rfl ?_
  refine Go.callS X2 hx hZ hown (wi hw 76 rfl) (wi hw 77 rfl) (wi hw 39 rfl) (wi hw 78 rfl) (by decide) hh2 (argsL := [(.int (gc kd))]) (rest := []) (W := 0) (rm_sp l Z a0 hw (gc kd) h0 n0 Z0 ) (hb hby d10_15) (by rw [hml]; rfl) rfl pd11 rfl rfl (by decide) (by decide) (by decide) (by decide) ?_
  intro v3 T3 L3 X3 hQ3
  obtain ⟨rfl, Nq3, hh3⟩ := hQ3
  have N3 := Fr.app N2 Nq3
  refine Go.push (pc' := 18) rfl ?_
  by_cases hc18 : (own_sp (gc kd)).toInt = (0 : Int)
  · refine g_ifNo X3 hx hby d10_18 (pc' := 21) (teq (show (own_sp (gc kd)) = (0 : Int32) from Int32.toInt_inj.mp hc18)).2 rfl ?_
    refine g_iconst X3 hx hby d10_21 (pc' := 22) rfl (z := (0 : Int32)) rfl ?_
    refine Go.retZ X3 hx hlk hret (by simp) (hb hby d10_22) (by decide) (by decide) ?_
    exact ⟨rfl, N3, hh3⟩
  · refine g_ifYes X3 hx hby d10_18 (pc' := 23) (feq (show ¬ ((own_sp (gc kd)) = (0 : Int32)) from fun q => hc18 (congrArg Int32.toInt q))).2 (by decide) (by decide) ?_
    have hne : kd ≠ j0 := fun q => hc18 (by rw [q]; exact own_sp0 hj)
    refine g_iinc X3 hx hby d10_23 (pc' := 26) rfl rfl (L' := #[.val (.ref a1), .val (.int (iv + (1 : Int32)))]) rfl ?_
    refine g_goto X3 hx hby d10_26 (pc' := 2) (by decide) (by decide) ?_
    exact IH2 (j0 - (kd + 1)) (T3, _, (iv + (1 : Int32)), (kd + 1)) (by omega) ⟨X3.more (by decide) (by decide), hh3, N3, (show (iv + (1 : Int32)).toInt = ((kd + 1) : Int) ∧ (kd + 1) ≤ j0 ∧ (j0 - (kd + 1)) = j0 - (kd + 1) from ⟨by have : ((iv + (1 : Int32)).toInt - (iv.toInt + (1))) % 4294967296 = 0 := c_iadd _ _; have : -2147483648 ≤ (iv + (1 : Int32)).toInt ∧ (iv + (1 : Int32)).toInt < 2147483648 := rng32 _; have : -2147483648 ≤ iv.toInt ∧ iv.toInt < 2147483648 := rng32 _; omega, by omega, by omega⟩)⟩
theorem d22_0 : decode jdk_43_method_4_code 0 = .ok (.iload_n 0, 1) := by decide +kernel
theorem d22_1 : decode jdk_43_method_4_code 1 = .ok (.ifCond .lt 14, 3) := by decide +kernel
theorem d22_4 : decode jdk_43_method_4_code 4 = .ok (.iload_n 0, 1) := by decide +kernel
theorem d22_5 : decode jdk_43_method_4_code 5 = .ok (.sipush 255, 3) := by decide +kernel
theorem d22_8 : decode jdk_43_method_4_code 8 = .ok (.if_icmp .gt 7, 3) := by decide +kernel
theorem d22_11 : decode jdk_43_method_4_code 11 = .ok (.iconst 1, 1) := by decide +kernel
theorem d22_12 : decode jdk_43_method_4_code 12 = .ok (.goto 4, 3) := by decide +kernel
theorem d22_16 : decode jdk_43_method_4_code 16 = .ok (.ireturn, 1) := by decide +kernel
theorem ef_rm_can (m : MethodId) (x0 : Int32) : entryFrame m #[(.int x0)] 1 = mkF m 0 #[.val (.int x0)] [] := by first | (simp [entryFrame, mkF, argsToLocals, Value.category]; done) | rfl
abbrev Q_rm_can (Z : State) (i1 : Int32) (h0 : Heap) (n0 : Nat) : Option Value → Heap → List Loc → Prop := fun v h L => v = some (.int (1 : Int32)) ∧ Fr n0 L ∧ h = h0
set_option maxRecDepth 65536 in
set_option maxHeartbeats 40000000 in
theorem rm_can (l : Launch) (Z : State) (a0 : Array Value) (hw : ∀ d ∈ tables_1, d.before a0 Z = true) (i1 : Int32) (h0 : Heap) (n0 : Nat) (Z0 : n0 ≤ h0.size) (hi1 : 0 ≤ i1.toInt ∧ i1.toInt ≤ 127) :
    Con l Z (⟨"java/lang/StringLatin1", "canEncode", "(I)Z"⟩ : MethodName) jdk_43_method_4_code 1 (some .boolean) ({ frames := 0, cells := 0, slots := 0, locals := 0 } : Room) #[(.int i1)] h0 (Q_rm_can Z i1 h0 n0) := by
  refine meet (y := (⟨"java/lang/StringLatin1", "canEncode", "(I)Z"⟩ : MethodName)) (Q := Q_rm_can Z i1 h0 n0) (plainFor_of_name pn_java_lang_StringLatin1) (fun m => ef_rm_can m i1) ?_
  intro p e s m below meth c T0 hx hby hml hZ hown hnm hret hlk X0 e0
  have N0 := Fr.nil n0
  refine g_iloadN X0 hx hby d22_0 (pc' := 1) rfl rfl ?_
  have hc1 : ¬ (i1.toInt < (0 : Int)) := by omega
  refine g_ifNo X0 hx hby d22_1 (pc' := 4) (flt (show ¬ (i1 < (0 : Int32)) from fun q => hc1 (Int32.lt_iff_toInt_lt.mp q))).1 rfl ?_
  refine g_iloadN X0 hx hby d22_4 (pc' := 5) rfl rfl ?_
  refine g_sipush X0 hx hby d22_5 (pc' := 8) rfl (z := (255 : Int32)) rfl ?_
  have hc8 : ¬ ((255 : Int) < i1.toInt) := by omega
  refine g_icmpNo X0 hx hby d22_8 (pc' := 11) (flt (show ¬ ((255 : Int32) < i1) from fun q => hc8 (Int32.lt_iff_toInt_lt.mp q))).2.2.1 rfl ?_
  refine g_iconst X0 hx hby d22_11 (pc' := 12) rfl (z := (1 : Int32)) rfl ?_
  refine g_goto X0 hx hby d22_12 (pc' := 16) (by decide) (by decide) ?_
  refine Go.retZ X0 hx hlk hret (by simp) (hb hby d22_16) (by decide) (by decide) ?_
  exact ⟨rfl, N0, e0⟩
theorem d23_0 : decode jdk_29_method_65_code 0 = .ok (.iload_n 0, 1) := by decide +kernel
theorem d23_1 : decode jdk_29_method_65_code 1 = .ok (.iload_n 1, 1) := by decide +kernel
theorem d23_2 : decode jdk_29_method_65_code 2 = .ok (.if_icmp .lt 7, 3) := by decide +kernel
theorem d23_5 : decode jdk_29_method_65_code 5 = .ok (.iload_n 0, 1) := by decide +kernel
theorem d23_6 : decode jdk_29_method_65_code 6 = .ok (.goto 4, 3) := by decide +kernel
theorem d23_10 : decode jdk_29_method_65_code 10 = .ok (.ireturn, 1) := by decide +kernel
theorem ef_rm_max (m : MethodId) (x0 : Int32) (x1 : Int32) : entryFrame m #[(.int x0), (.int x1)] 2 = mkF m 0 #[.val (.int x0), .val (.int x1)] [] := by first | (simp [entryFrame, mkF, argsToLocals, Value.category]; done) | rfl
abbrev Q_rm_max (Z : State) (i1 : Int32) (i2 : Int32) (h0 : Heap) (n0 : Nat) : Option Value → Heap → List Loc → Prop := fun v h L => v = some (.int i1) ∧ Fr n0 L ∧ h = h0
set_option maxRecDepth 65536 in
set_option maxHeartbeats 40000000 in
theorem rm_max (l : Launch) (Z : State) (a0 : Array Value) (hw : ∀ d ∈ tables_1, d.before a0 Z = true) (i1 : Int32) (i2 : Int32) (h0 : Heap) (n0 : Nat) (Z0 : n0 ≤ h0.size) (y1 : i2.toInt ≤ i1.toInt) :
    Con l Z (⟨"java/lang/Math", "max", "(II)I"⟩ : MethodName) jdk_29_method_65_code 2 (some .int) ({ frames := 0, cells := 0, slots := 0, locals := 0 } : Room) #[(.int i1), (.int i2)] h0 (Q_rm_max Z i1 i2 h0 n0) := by
  refine meet (y := (⟨"java/lang/Math", "max", "(II)I"⟩ : MethodName)) (Q := Q_rm_max Z i1 i2 h0 n0) (Jvm.Free.JP.mathPlain rfl (by decide +kernel)) (fun m => ef_rm_max m i1 i2) ?_
  intro p e s m below meth c T0 hx hby hml hZ hown hnm hret hlk X0 e0
  have N0 := Fr.nil n0
  refine g_iloadN X0 hx hby d23_0 (pc' := 1) rfl rfl ?_
  refine g_iloadN X0 hx hby d23_1 (pc' := 2) rfl rfl ?_
  have hc2 : ¬ (i1.toInt < i2.toInt) := by omega
  refine g_icmpNo X0 hx hby d23_2 (pc' := 5) (flt (show ¬ (i1 < i2) from fun q => hc2 (Int32.lt_iff_toInt_lt.mp q))).1 rfl ?_
  refine g_iloadN X0 hx hby d23_5 (pc' := 6) rfl rfl ?_
  refine g_goto X0 hx hby d23_6 (pc' := 10) (by decide) (by decide) ?_
  refine Go.retI X0 hx hlk hret (hb hby d23_10) (by decide) (by decide) ?_
  exact ⟨rfl, N0, e0⟩
theorem d24_0 : decode jdk_29_method_69_code 0 = .ok (.iload_n 0, 1) := by decide +kernel
theorem d24_1 : decode jdk_29_method_69_code 1 = .ok (.iload_n 1, 1) := by decide +kernel
theorem d24_2 : decode jdk_29_method_69_code 2 = .ok (.if_icmp .gt 7, 3) := by decide +kernel
theorem d24_5 : decode jdk_29_method_69_code 5 = .ok (.iload_n 0, 1) := by decide +kernel
theorem d24_6 : decode jdk_29_method_69_code 6 = .ok (.goto 4, 3) := by decide +kernel
theorem d24_10 : decode jdk_29_method_69_code 10 = .ok (.ireturn, 1) := by decide +kernel
theorem ef_rm_min (m : MethodId) (x0 : Int32) (x1 : Int32) : entryFrame m #[(.int x0), (.int x1)] 2 = mkF m 0 #[.val (.int x0), .val (.int x1)] [] := by first | (simp [entryFrame, mkF, argsToLocals, Value.category]; done) | rfl
abbrev Q_rm_min (Z : State) (i1 : Int32) (i2 : Int32) (h0 : Heap) (n0 : Nat) : Option Value → Heap → List Loc → Prop := fun v h L => v = some (.int i1) ∧ Fr n0 L ∧ h = h0
set_option maxRecDepth 65536 in
set_option maxHeartbeats 40000000 in
theorem rm_min (l : Launch) (Z : State) (a0 : Array Value) (hw : ∀ d ∈ tables_1, d.before a0 Z = true) (i1 : Int32) (i2 : Int32) (h0 : Heap) (n0 : Nat) (Z0 : n0 ≤ h0.size) (y1 : i1.toInt ≤ i2.toInt) :
    Con l Z (⟨"java/lang/Math", "min", "(II)I"⟩ : MethodName) jdk_29_method_69_code 2 (some .int) ({ frames := 0, cells := 0, slots := 0, locals := 0 } : Room) #[(.int i1), (.int i2)] h0 (Q_rm_min Z i1 i2 h0 n0) := by
  refine meet (y := (⟨"java/lang/Math", "min", "(II)I"⟩ : MethodName)) (Q := Q_rm_min Z i1 i2 h0 n0) (Jvm.Free.JP.mathPlain rfl (by decide +kernel)) (fun m => ef_rm_min m i1 i2) ?_
  intro p e s m below meth c T0 hx hby hml hZ hown hnm hret hlk X0 e0
  have N0 := Fr.nil n0
  refine g_iloadN X0 hx hby d24_0 (pc' := 1) rfl rfl ?_
  refine g_iloadN X0 hx hby d24_1 (pc' := 2) rfl rfl ?_
  have hc2 : ¬ (i2.toInt < i1.toInt) := by omega
  refine g_icmpNo X0 hx hby d24_2 (pc' := 5) (flt (show ¬ (i2 < i1) from fun q => hc2 (Int32.lt_iff_toInt_lt.mp q))).2.2.1 rfl ?_
  refine g_iloadN X0 hx hby d24_5 (pc' := 6) rfl rfl ?_
  refine g_goto X0 hx hby d24_6 (pc' := 10) (by decide) (by decide) ?_
  refine Go.retI X0 hx hlk hret (hb hby d24_10) (by decide) (by decide) ?_
  exact ⟨rfl, N0, e0⟩
theorem d25_0 : decode jdk_43_method_23_code 0 = .ok (.iload_n 1, 1) := by decide +kernel
theorem d25_1 : decode jdk_43_method_23_code 1 = .ok (.i2b, 1) := by decide +kernel
theorem d25_2 : decode jdk_43_method_23_code 2 = .ok (.istore 4, 2) := by decide +kernel
theorem d25_4 : decode jdk_43_method_23_code 4 = .ok (.iload_n 2, 1) := by decide +kernel
theorem d25_5 : decode jdk_43_method_23_code 5 = .ok (.istore 5, 2) := by decide +kernel
theorem d25_7 : decode jdk_43_method_23_code 7 = .ok (.iload 5, 2) := by decide +kernel
theorem d25_9 : decode jdk_43_method_23_code 9 = .ok (.iload_n 3, 1) := by decide +kernel
theorem d25_10 : decode jdk_43_method_23_code 10 = .ok (.if_icmp .ge 21, 3) := by decide +kernel
theorem d25_13 : decode jdk_43_method_23_code 13 = .ok (.aload_n 0, 1) := by decide +kernel
theorem d25_14 : decode jdk_43_method_23_code 14 = .ok (.iload 5, 2) := by decide +kernel
theorem d25_16 : decode jdk_43_method_23_code 16 = .ok (.baload, 1) := by decide +kernel
theorem d25_17 : decode jdk_43_method_23_code 17 = .ok (.iload 4, 2) := by decide +kernel
theorem d25_19 : decode jdk_43_method_23_code 19 = .ok (.if_icmp .ne 6, 3) := by decide +kernel
theorem d25_25 : decode jdk_43_method_23_code 25 = .ok (.iinc 5 1, 3) := by decide +kernel
theorem d25_28 : decode jdk_43_method_23_code 28 = .ok (.goto (-21), 3) := by decide +kernel
theorem d25_31 : decode jdk_43_method_23_code 31 = .ok (.iconst (-1), 1) := by decide +kernel
theorem d25_32 : decode jdk_43_method_23_code 32 = .ok (.ireturn, 1) := by decide +kernel
theorem ef_rm_ic (m : MethodId) (x0 : Addr) (x1 : Int32) (x3 : Int32) : entryFrame m #[(.ref x0), (.int x1), (.int (0 : Int32)), (.int x3)] 6 = mkF m 0 #[.val (.ref x0), .val (.int x1), .val (.int (0 : Int32)), .val (.int x3), .unset, .unset] [] := by first | (simp [entryFrame, mkF, argsToLocals, Value.category]; done) | rfl
abbrev Q_rm_ic (Z : State) (x1 : Addr) (i1 : Int32) (i3 : Int32) (n1 : Nat) (gc : Nat → Int32) (h0 : Heap) (n0 : Nat) : Option Value → Heap → List Loc → Prop := fun v h L => v = some (.int (-1 : Int32)) ∧ Fr n0 L ∧ h = h0
set_option maxRecDepth 65536 in
set_option maxHeartbeats 40000000 in
theorem rm_ic (l : Launch) (Z : State) (a0 : Array Value) (hw : ∀ d ∈ tables_1, d.before a0 Z = true) (x1 : Addr) (i1 : Int32) (i3 : Int32) (n1 : Nat) (gc : Nat → Int32) (h0 : Heap) (n0 : Nat) (Z0 : n0 ≤ h0.size) (P0 : ArF Z h0 x1 .byte n1 (fun i => .int ((own_lo gc) i))) (hi1 : 0 ≤ i1.toInt ∧ i1.toInt ≤ 127) (hnz : ∀ i, i < n1 → ¬ (gc i).toInt = i1.toInt) (hi3 : i3.toInt = (n1 : Int)) (hn1 : 1 ≤ n1) (hn3 : n1 ≤ 3) (hgc : ∀ i, i < n1 → 0 ≤ (gc i).toInt ∧ (gc i).toInt ≤ 255) :
    Con l Z (⟨"java/lang/StringLatin1", "indexOfChar", "([BIII)I"⟩ : MethodName) jdk_43_method_23_code 6 (some .int) ({ frames := 0, cells := 0, slots := 0, locals := 0 } : Room) #[(.ref x1), (.int i1), (.int (0 : Int32)), (.int i3)] h0 (Q_rm_ic Z x1 i1 i3 n1 gc h0 n0) := by
  refine meet (y := (⟨"java/lang/StringLatin1", "indexOfChar", "([BIII)I"⟩ : MethodName)) (Q := Q_rm_ic Z x1 i1 i3 n1 gc h0 n0) (plainFor_of_name pn_java_lang_StringLatin1) (fun m => ef_rm_ic m x1 i1 i3) ?_
  intro p e s m below meth c T0 hx hby hml hZ hown hnm hret hlk X0 e0
  have N0 := Fr.nil n0
  refine g_iloadN X0 hx hby d25_0 (pc' := 1) rfl rfl ?_
  refine g_i2b X0 hx hby d25_1 (pc' := 2) rfl rfl ?_
  generalize hv1 : (i1.toInt8.toInt32) = v1
  refine g_istore X0 hx hby d25_2 (pc' := 4) rfl (L' := #[.val (.ref x1), .val (.int i1), .val (.int (0 : Int32)), .val (.int i3), .val (.int v1), .unset]) rfl ?_
  refine g_iloadN X0 hx hby d25_4 (pc' := 5) rfl rfl ?_
  refine g_istore X0 hx hby d25_5 (pc' := 7) rfl (L' := #[.val (.ref x1), .val (.int i1), .val (.int (0 : Int32)), .val (.int i3), .val (.int v1), .val (.int (0 : Int32))]) rfl ?_
  refine Go.loop (α := State × (List Loc) × Int32 × Nat) (P := fun kq x => (fun (Tj7 : State) (Lj7 : List Loc) (iv : Int32) (kd : Nat) => Stand p l e ({ frames := 0, cells := 0, slots := 0, locals := 0 } : Room) s m #[(.ref x1), (.int i1), (.int (0 : Int32)), (.int i3)] below meth c Tj7 Lj7 0 0 ∧ Tj7.heap = h0 ∧ Fr n0 Lj7 ∧ (iv.toInt = (kd : Int) ∧ kd ≤ n1 ∧ kq = n1 - kd)) x.1 x.2.1 x.2.2.1 x.2.2.2) (F := fun x => (fun (Tj7 : State) (Lj7 : List Loc) (iv : Int32) (kd : Nat) => Tj7.setTop (mkF m 7 #[.val (.ref x1), .val (.int i1), .val (.int (0 : Int32)), .val (.int i3), .val (.int v1), .val (.int iv)] [])) x.1 x.2.1 x.2.2.1 x.2.2.2) ?_ (n1) (T0, _, (0 : Int32), 0) ⟨X0.more (by decide) (by decide), e0, N0, (show (0 : Int32).toInt = (0 : Int) ∧ 0 ≤ n1 ∧ (n1) = n1 - 0 from ⟨rfl, by omega, rfl⟩)⟩
  rintro kq ⟨Tj7, Lj7, iv, kd⟩ hP7 IH7
  obtain ⟨Xj7, ej7, Nj7, hJ7⟩ : Stand p l e ({ frames := 0, cells := 0, slots := 0, locals := 0 } : Room) s m #[(.ref x1), (.int i1), (.int (0 : Int32)), (.int i3)] below meth c Tj7 Lj7 0 0 ∧ Tj7.heap = h0 ∧ Fr n0 Lj7 ∧ (iv.toInt = (kd : Int) ∧ kd ≤ n1 ∧ kq = n1 - kd) := hP7
  show Go p.tables e below s _ _ _ (Tj7.setTop (mkF m 7 #[.val (.ref x1), .val (.int i1), .val (.int (0 : Int32)), .val (.int i3), .val (.int v1), .val (.int iv)] []))
  obtain ⟨hiv, hkd, hkq⟩ := hJ7
  refine g_iload Xj7 hx hby d25_7 (pc' := 9) rfl rfl ?_
  refine g_iloadN Xj7 hx hby d25_9 (pc' := 10) rfl rfl ?_
  by_cases hc10 : iv.toInt < i3.toInt
  · refine g_icmpNo Xj7 hx hby d25_10 (pc' := 13) (tlt (show iv < i3 from Int32.lt_iff_toInt_lt.mpr hc10)).2.1 rfl ?_
    refine g_aloadN Xj7 hx hby d25_13 (pc' := 14) rfl rfl rfl ?_
    refine g_iload Xj7 hx hby d25_14 (pc' := 16) rfl rfl ?_
    refine Go.baload Xj7 hx hZ ej7 P0 (k := kd) hiv (by omega) rfl (hb hby d25_16) (pc' := 17) rfl ?_
    refine g_iload Xj7 hx hby d25_17 (pc' := 19) rfl rfl ?_
    have hc19 : ¬ (((own_lo gc) kd).toInt = v1.toInt) := by rw [← hv1]; exact own_lo_ne gc kd i1 (hgc kd (by omega)) hi1 (hnz kd (by omega))
    refine g_icmpYes Xj7 hx hby d25_19 (pc' := 25) (feq (show ¬ (((own_lo gc) kd) = v1) from fun q => hc19 (congrArg Int32.toInt q))).2 (by decide) (by decide) ?_
    refine g_iinc Xj7 hx hby d25_25 (pc' := 28) rfl rfl (L' := #[.val (.ref x1), .val (.int i1), .val (.int (0 : Int32)), .val (.int i3), .val (.int v1), .val (.int (iv + (1 : Int32)))]) rfl ?_
    refine g_goto Xj7 hx hby d25_28 (pc' := 7) (by decide) (by decide) ?_
    exact IH7 (n1 - (kd + 1)) (Tj7, _, (iv + (1 : Int32)), (kd + 1)) (by omega) ⟨Xj7.more (by decide) (by decide), ej7, Nj7, (show (iv + (1 : Int32)).toInt = ((kd + 1) : Int) ∧ (kd + 1) ≤ n1 ∧ (n1 - (kd + 1)) = n1 - (kd + 1) from ⟨by have : ((iv + (1 : Int32)).toInt - (iv.toInt + (1))) % 4294967296 = 0 := c_iadd _ _; have : -2147483648 ≤ (iv + (1 : Int32)).toInt ∧ (iv + (1 : Int32)).toInt < 2147483648 := rng32 _; have : -2147483648 ≤ iv.toInt ∧ iv.toInt < 2147483648 := rng32 _; omega, by omega, by omega⟩)⟩
  · refine g_icmpYes Xj7 hx hby d25_10 (pc' := 31) (flt (show ¬ (iv < i3) from fun q => hc10 (Int32.lt_iff_toInt_lt.mp q))).2.1 (by decide) (by decide) ?_
    refine g_iconst Xj7 hx hby d25_31 (pc' := 32) rfl (z := (-1 : Int32)) rfl ?_
    refine Go.retI Xj7 hx hlk hret (hb hby d25_32) (by decide) (by decide) ?_
    exact ⟨rfl, Nj7, ej7⟩
theorem d21_0 : decode jdk_43_method_22_code 0 = .ok (.iload_n 1, 1) := by decide +kernel
theorem d21_1 : decode jdk_43_method_22_code 1 = .ok (.invokestatic 88, 3) := by decide +kernel
theorem pd12 : parseMethodDescriptor "(I)Z" = some ⟨[.int], some .boolean⟩ := by decide +kernel
theorem d21_4 : decode jdk_43_method_22_code 4 = .ok (.ifCond .ne 5, 3) := by decide +kernel
theorem d21_9 : decode jdk_43_method_22_code 9 = .ok (.iload_n 2, 1) := by decide +kernel
theorem d21_10 : decode jdk_43_method_22_code 10 = .ok (.iconst 0, 1) := by decide +kernel
theorem d21_11 : decode jdk_43_method_22_code 11 = .ok (.invokestatic 92, 3) := by decide +kernel
theorem pd13 : parseMethodDescriptor "(II)I" = some ⟨[.int, .int], some .int⟩ := by decide +kernel
theorem d21_14 : decode jdk_43_method_22_code 14 = .ok (.istore_n 2, 1) := by decide +kernel
theorem d21_15 : decode jdk_43_method_22_code 15 = .ok (.iload_n 3, 1) := by decide +kernel
theorem d21_16 : decode jdk_43_method_22_code 16 = .ok (.aload_n 0, 1) := by decide +kernel
theorem d21_17 : decode jdk_43_method_22_code 17 = .ok (.arraylength, 1) := by decide +kernel
theorem d21_18 : decode jdk_43_method_22_code 18 = .ok (.invokestatic 38, 3) := by decide +kernel
theorem d21_21 : decode jdk_43_method_22_code 21 = .ok (.istore_n 3, 1) := by decide +kernel
theorem d21_22 : decode jdk_43_method_22_code 22 = .ok (.iload_n 2, 1) := by decide +kernel
theorem d21_23 : decode jdk_43_method_22_code 23 = .ok (.iload_n 3, 1) := by decide +kernel
theorem d21_24 : decode jdk_43_method_22_code 24 = .ok (.if_icmp .lt 5, 3) := by decide +kernel
theorem d21_29 : decode jdk_43_method_22_code 29 = .ok (.aload_n 0, 1) := by decide +kernel
theorem d21_30 : decode jdk_43_method_22_code 30 = .ok (.iload_n 1, 1) := by decide +kernel
theorem d21_31 : decode jdk_43_method_22_code 31 = .ok (.iload_n 2, 1) := by decide +kernel
theorem d21_32 : decode jdk_43_method_22_code 32 = .ok (.iload_n 3, 1) := by decide +kernel
theorem d21_33 : decode jdk_43_method_22_code 33 = .ok (.invokestatic 95, 3) := by decide +kernel
theorem pd14 : parseMethodDescriptor "([BIII)I" = some ⟨[(.array .byte), .int, .int, .int], some .int⟩ := by decide +kernel
theorem d21_36 : decode jdk_43_method_22_code 36 = .ok (.ireturn, 1) := by decide +kernel
theorem ef_rm_i4 (m : MethodId) (x0 : Addr) (x1 : Int32) (x3 : Int32) : entryFrame m #[(.ref x0), (.int x1), (.int (0 : Int32)), (.int x3)] 4 = mkF m 0 #[.val (.ref x0), .val (.int x1), .val (.int (0 : Int32)), .val (.int x3)] [] := by first | (simp [entryFrame, mkF, argsToLocals, Value.category]; done) | rfl
abbrev Q_rm_i4 (Z : State) (x1 : Addr) (i1 : Int32) (i3 : Int32) (n1 : Nat) (gc : Nat → Int32) (h0 : Heap) (n0 : Nat) : Option Value → Heap → List Loc → Prop := fun v h L => v = some (.int (-1 : Int32)) ∧ Fr n0 L ∧ h = h0
set_option maxRecDepth 65536 in
set_option maxHeartbeats 40000000 in
theorem rm_i4 (l : Launch) (Z : State) (a0 : Array Value) (hw : ∀ d ∈ tables_1, d.before a0 Z = true) (x1 : Addr) (i1 : Int32) (i3 : Int32) (n1 : Nat) (gc : Nat → Int32) (h0 : Heap) (n0 : Nat) (Z0 : n0 ≤ h0.size) (P0 : ArF Z h0 x1 .byte n1 (fun i => .int ((own_lo gc) i))) (hi1 : 0 ≤ i1.toInt ∧ i1.toInt ≤ 127) (hnz : ∀ i, i < n1 → ¬ (gc i).toInt = i1.toInt) (hi3 : i3.toInt = (n1 : Int)) (hn1 : 1 ≤ n1) (hn3 : n1 ≤ 3) (hgc : ∀ i, i < n1 → 0 ≤ (gc i).toInt ∧ (gc i).toInt ≤ 255) :
    Con l Z (⟨"java/lang/StringLatin1", "indexOf", "([BIII)I"⟩ : MethodName) jdk_43_method_22_code 4 (some .int) ({ frames := 1, cells := 0, slots := 0, locals := 17 } : Room) #[(.ref x1), (.int i1), (.int (0 : Int32)), (.int i3)] h0 (Q_rm_i4 Z x1 i1 i3 n1 gc h0 n0) := by
  refine meet (y := (⟨"java/lang/StringLatin1", "indexOf", "([BIII)I"⟩ : MethodName)) (Q := Q_rm_i4 Z x1 i1 i3 n1 gc h0 n0) (plainFor_of_name pn_java_lang_StringLatin1) (fun m => ef_rm_i4 m x1 i1 i3) ?_
  intro p e s m below meth c T0 hx hby hml hZ hown hnm hret hlk X0 e0
  have N0 := Fr.nil n0
  refine g_iloadN X0 hx hby d21_0 (pc' := 1) rfl rfl ?_
  refine Go.callS X0 hx hZ hown (wi hw 93 rfl) (wi hw 94 rfl) (wi hw 66 rfl) (wi hw 95 rfl) (by decide) e0 (argsL := [(.int i1)]) (rest := []) (W := 0) (rm_can l Z a0 hw i1 h0 n0 Z0 hi1) (hb hby d21_1) (by rw [hml]; rfl) rfl pd12 rfl rfl (by decide) (by decide) (by decide) (by decide) ?_
  intro v1 T1 L1 X1 hQ1
  obtain ⟨rfl, Nq1, hh1⟩ := hQ1
  have N1 := Fr.app N0 Nq1
  refine Go.push (pc' := 4) rfl ?_
  have hc4 : ¬ ((1 : Int) = (0 : Int)) := by decide
  refine g_ifYes X1 hx hby d21_4 (pc' := 9) (feq (show ¬ ((1 : Int32) = (0 : Int32)) from fun q => hc4 (congrArg Int32.toInt q))).2 (by decide) (by decide) ?_
  refine g_iloadN X1 hx hby d21_9 (pc' := 10) rfl rfl ?_
  refine g_iconst X1 hx hby d21_10 (pc' := 11) rfl (z := (0 : Int32)) rfl ?_
  refine Go.callS X1 hx hZ hown (wi hw 96 rfl) (wi hw 97 rfl) (wi hw 98 rfl) (wi hw 99 rfl) (by decide) hh1 (argsL := [(.int (0 : Int32)), (.int (0 : Int32))]) (rest := []) (W := 0) (rm_max l Z a0 hw (0 : Int32) (0 : Int32) h0 n0 Z0 (by decide)) (hb hby d21_11) (by rw [hml]; rfl) rfl pd13 rfl rfl (by decide) (by decide) (by decide) (by decide) ?_
  intro v2 T2 L2 X2 hQ2
  obtain ⟨rfl, Nq2, hh2⟩ := hQ2
  have N2 := Fr.app N1 Nq2
  refine Go.push (pc' := 14) rfl ?_
  refine g_istoreN X2 hx hby d21_14 (pc' := 15) rfl (L' := #[.val (.ref x1), .val (.int i1), .val (.int (0 : Int32)), .val (.int i3)]) rfl ?_
  refine g_iloadN X2 hx hby d21_15 (pc' := 16) rfl rfl ?_
  refine g_aloadN X2 hx hby d21_16 (pc' := 17) rfl rfl rfl ?_
  refine Go.alen X2 hx hZ hh2 P0 (z := ((n1 : Nat).toInt32)) rfl (hb hby d21_17) (pc' := 18) rfl ?_
  refine Go.callS X2 hx hZ hown (wi hw 100 rfl) (wi hw 101 rfl) (wi hw 98 rfl) (wi hw 102 rfl) (by decide) hh2 (argsL := [(.int i3), (.int ((n1 : Nat).toInt32))]) (rest := []) (W := 0) (rm_min l Z a0 hw i3 ((n1 : Nat).toInt32) h0 n0 Z0 (by have q := len_toInt (n := n1) (by omega); omega)) (hb hby d21_18) (by rw [hml]; rfl) rfl pd13 rfl rfl (by decide) (by decide) (by decide) (by decide) ?_
  intro v3 T3 L3 X3 hQ3
  obtain ⟨rfl, Nq3, hh3⟩ := hQ3
  have N3 := Fr.app N2 Nq3
  refine Go.push (pc' := 21) rfl ?_
  refine g_istoreN X3 hx hby d21_21 (pc' := 22) rfl (L' := #[.val (.ref x1), .val (.int i1), .val (.int (0 : Int32)), .val (.int i3)]) rfl ?_
  refine g_iloadN X3 hx hby d21_22 (pc' := 23) rfl rfl ?_
  refine g_iloadN X3 hx hby d21_23 (pc' := 24) rfl rfl ?_
  have hc24 : (0 : Int) < i3.toInt := by show (0 : Int) < _; omega
  refine g_icmpYes X3 hx hby d21_24 (pc' := 29) (tlt (show (0 : Int32) < i3 from Int32.lt_iff_toInt_lt.mpr hc24)).1 (by decide) (by decide) ?_
  refine g_aloadN X3 hx hby d21_29 (pc' := 30) rfl rfl rfl ?_
  refine g_iloadN X3 hx hby d21_30 (pc' := 31) rfl rfl ?_
  refine g_iloadN X3 hx hby d21_31 (pc' := 32) rfl rfl ?_
  refine g_iloadN X3 hx hby d21_32 (pc' := 33) rfl rfl ?_
  refine Go.callS X3 hx hZ hown (wi hw 103 rfl) (wi hw 104 rfl) (wi hw 66 rfl) (wi hw 105 rfl) (by decide) hh3 (argsL := [(.ref x1), (.int i1), (.int (0 : Int32)), (.int i3)]) (rest := []) (W := 0) (rm_ic l Z a0 hw x1 i1 i3 n1 gc h0 n0 Z0 P0 hi1 hnz hi3 (by omega) (by omega) hgc) (hb hby d21_33) (by rw [hml]; rfl) rfl pd14 rfl rfl (by decide) (by decide) (by decide) (by decide) ?_
  intro v4 T4 L4 X4 hQ4
  obtain ⟨rfl, Nq4, hh4⟩ := hQ4
  have N4 := Fr.app N3 Nq4
  refine Go.push (pc' := 36) rfl ?_
  refine Go.retI X4 hx hlk hret (hb hby d21_36) (by decide) (by decide) ?_
  exact ⟨rfl, N4, hh4⟩
theorem d20_0 : decode jdk_42_method_80_code 0 = .ok (.aload_n 0, 1) := by decide +kernel
theorem d20_1 : decode jdk_42_method_80_code 1 = .ok (.invokevirtual 492, 3) := by decide +kernel
theorem d20_4 : decode jdk_42_method_80_code 4 = .ok (.ifCond .eq 19, 3) := by decide +kernel
theorem d20_7 : decode jdk_42_method_80_code 7 = .ok (.aload_n 0, 1) := by decide +kernel
theorem d20_8 : decode jdk_42_method_80_code 8 = .ok (.getfield 9, 3) := by decide +kernel
theorem d20_11 : decode jdk_42_method_80_code 11 = .ok (.iload_n 1, 1) := by decide +kernel
theorem d20_12 : decode jdk_42_method_80_code 12 = .ok (.iload_n 2, 1) := by decide +kernel
theorem d20_13 : decode jdk_42_method_80_code 13 = .ok (.aload_n 0, 1) := by decide +kernel
theorem d20_14 : decode jdk_42_method_80_code 14 = .ok (.invokevirtual 505, 3) := by decide +kernel
theorem d20_17 : decode jdk_42_method_80_code 17 = .ok (.invokestatic 637, 3) := by decide +kernel
theorem d20_20 : decode jdk_42_method_80_code 20 = .ok (.goto 16, 3) := by decide +kernel
theorem d20_36 : decode jdk_42_method_80_code 36 = .ok (.ireturn, 1) := by decide +kernel
theorem ef_rm_i2 (m : MethodId) (x0 : Addr) (x1 : Int32) : entryFrame m #[(.ref x0), (.int x1), (.int (0 : Int32))] 3 = mkF m 0 #[.val (.ref x0), .val (.int x1), .val (.int (0 : Int32))] [] := by first | (simp [entryFrame, mkF, argsToLocals, Value.category]; done) | rfl
abbrev Q_rm_i2 (Z : State) (a1 : Addr) (i1 : Int32) (x1 : Addr) (n1 : Nat) (gc : Nat → Int32) (G1 : Int32) (h0 : Heap) (n0 : Nat) : Option Value → Heap → List Loc → Prop := fun v h L => v = some (.int (-1 : Int32)) ∧ Fr n0 L ∧ h = h0
set_option maxRecDepth 65536 in
set_option maxHeartbeats 40000000 in
theorem rm_i2 (l : Launch) (Z : State) (a0 : Array Value) (hw : ∀ d ∈ tables_1, d.before a0 Z = true) (a1 : Addr) (i1 : Int32) (x1 : Addr) (n1 : Nat) (gc : Nat → Int32) (G1 : Int32) (h0 : Heap) (n0 : Nat) (Z0 : n0 ≤ h0.size) (P0 : Exa Z h0 a1 "java/lang/String") (P1 : Fld Z h0 a1 "java/lang/String" "value" "[B" (.ref x1)) (P2 : Fld Z h0 a1 "java/lang/String" "coder" "B" (.int (0 : Int32))) (P3 : ArF Z h0 x1 .byte n1 (fun i => .int ((own_lo gc) i))) (P4 : Old Z n0 h0) (hi1 : 0 ≤ i1.toInt ∧ i1.toInt ≤ 127) (hnz : ∀ i, i < n1 → ¬ (gc i).toInt = i1.toInt) (hn1 : 1 ≤ n1) (hn3 : n1 ≤ 3) (hgc : ∀ i, i < n1 → 0 ≤ (gc i).toInt ∧ (gc i).toInt ≤ 255) (O2 : Sta Z Z.heap "java/lang/String" "COMPACT_STRINGS" "Z" (.int G1)) (hG1 : ¬ G1.toInt = 0) :
    Con l Z (⟨"java/lang/String", "indexOf", "(II)I"⟩ : MethodName) jdk_42_method_80_code 3 (some .int) ({ frames := 2, cells := 0, slots := 0, locals := 32 } : Room) #[(.ref a1), (.int i1), (.int (0 : Int32))] h0 (Q_rm_i2 Z a1 i1 x1 n1 gc G1 h0 n0) := by
  refine meet (y := (⟨"java/lang/String", "indexOf", "(II)I"⟩ : MethodName)) (Q := Q_rm_i2 Z a1 i1 x1 n1 gc G1 h0 n0) (plainFor_of_name pn_java_lang_String) (fun m => ef_rm_i2 m a1 i1) ?_
  intro p e s m below meth c T0 hx hby hml hZ hown hnm hret hlk X0 e0
  have N0 := Fr.nil n0
  refine g_aloadN X0 hx hby d20_0 (pc' := 1) rfl rfl rfl ?_
  refine Go.callV X0 hx hZ hown (wi hw 59 rfl) (wi hw 60 rfl) (notFace_of_selects (args := #[]) (mvT hZ (wi hw 62 rfl))) (wi hw 62 rfl) (wi hw 61 rfl) (wi hw 7 rfl) (wi hw 63 rfl) (by decide) e0 (a := a1) (argsL := []) (rest := []) (W := 0) P0 (rm_lat l Z a0 hw a1 G1 h0 n0 Z0 P2 P4 O2 hG1) (hb hby d20_1) (by rw [hml]; rfl) rfl pd7 rfl rfl (by decide) (by decide) (by decide) (by decide) ?_
  intro v1 T1 L1 X1 hQ1
  obtain ⟨rfl, Nq1, hh1⟩ := hQ1
  have N1 := Fr.app N0 Nq1
  refine Go.push (pc' := 4) rfl ?_
  have hc4 : ¬ ((1 : Int) = (0 : Int)) := by decide
  refine g_ifNo X1 hx hby d20_4 (pc' := 7) (feq (show ¬ ((1 : Int32) = (0 : Int32)) from fun q => hc4 (congrArg Int32.toInt q))).1 rfl ?_
  refine g_aloadN X1 hx hby d20_7 (pc' := 8) rfl rfl rfl ?_
  refine g_getf X1 hx hby hZ hown (host := "") (Or.inl (wi hw 32 rfl)) Via.refl hh1 P1 d20_8 (pc' := 11) rfl ?_
  intro T2 X2 e2
  refine g_iloadN X2 hx hby d20_11 (pc' := 12) rfl rfl ?_
  refine g_iloadN X2 hx hby d20_12 (pc' := 13) rfl rfl ?_
  refine g_aloadN X2 hx hby d20_13 (pc' := 14) rfl rfl rfl ?_
  refine Go.callV X2 hx hZ hown (wi hw 89 rfl) (wi hw 45 rfl) (notFace_of_selects (args := #[]) (mvT hZ (wi hw 47 rfl))) (wi hw 47 rfl) (wi hw 46 rfl) (wi hw 7 rfl) (wi hw 48 rfl) (by decide) e2 (a := a1) (argsL := []) (rest := [(.int (0 : Int32)), (.int i1), (.ref x1)]) (W := 3) P0 (rm_len l Z a0 hw a1 x1 n1 gc G1 h0 n0 Z0 P0 P1 P2 P3 P4 O2 hG1) (hb hby d20_14) (by rw [hml]; rfl) rfl pd9 rfl rfl (by decide) (by decide) (by decide) (by decide) ?_
  intro v3 T3 L3 X3 hQ3
  obtain ⟨rfl, Nq3, hh3⟩ := hQ3
  have N3 := Fr.app N1 Nq3
  refine Go.push (pc' := 17) rfl ?_
  refine Go.callS X3 hx hZ hown (wi hw 90 rfl) (wi hw 91 rfl) (wi hw 66 rfl) (wi hw 92 rfl) (by decide) hh3 (argsL := [(.ref x1), (.int i1), (.int (0 : Int32)), (.int ((n1 : Nat).toInt32))]) (rest := []) (W := 0) (rm_i4 l Z a0 hw x1 i1 ((n1 : Nat).toInt32) n1 gc h0 n0 Z0 P3 hi1 hnz (len_toInt (by omega)) (by omega) (by omega) hgc) (hb hby d20_17) (by rw [hml]; rfl) rfl pd14 rfl rfl (by decide) (by decide) (by decide) (by decide) ?_
  intro v4 T4 L4 X4 hQ4
  obtain ⟨rfl, Nq4, hh4⟩ := hQ4
  have N4 := Fr.app N3 Nq4
  refine Go.push (pc' := 20) rfl ?_
  refine g_goto X4 hx hby d20_20 (pc' := 36) (by decide) (by decide) ?_
  refine Go.retI X4 hx hlk hret (hb hby d20_36) (by decide) (by decide) ?_
  exact ⟨rfl, N4, hh4⟩
theorem d19_0 : decode jdk_42_method_79_code 0 = .ok (.aload_n 0, 1) := by decide +kernel
theorem d19_1 : decode jdk_42_method_79_code 1 = .ok (.iload_n 1, 1) := by decide +kernel
theorem d19_2 : decode jdk_42_method_79_code 2 = .ok (.iconst 0, 1) := by decide +kernel
theorem d19_3 : decode jdk_42_method_79_code 3 = .ok (.invokevirtual 633, 3) := by decide +kernel
theorem d19_6 : decode jdk_42_method_79_code 6 = .ok (.ireturn, 1) := by decide +kernel
theorem ef_rm_i1 (m : MethodId) (x0 : Addr) (x1 : Int32) : entryFrame m #[(.ref x0), (.int x1)] 2 = mkF m 0 #[.val (.ref x0), .val (.int x1)] [] := by first | (simp [entryFrame, mkF, argsToLocals, Value.category]; done) | rfl
abbrev Q_rm_i1 (Z : State) (a1 : Addr) (i1 : Int32) (x1 : Addr) (n1 : Nat) (gc : Nat → Int32) (G1 : Int32) (h0 : Heap) (n0 : Nat) : Option Value → Heap → List Loc → Prop := fun v h L => v = some (.int (-1 : Int32)) ∧ Fr n0 L ∧ h = h0
set_option maxRecDepth 65536 in
set_option maxHeartbeats 40000000 in
theorem rm_i1 (l : Launch) (Z : State) (a0 : Array Value) (hw : ∀ d ∈ tables_1, d.before a0 Z = true) (a1 : Addr) (i1 : Int32) (x1 : Addr) (n1 : Nat) (gc : Nat → Int32) (G1 : Int32) (h0 : Heap) (n0 : Nat) (Z0 : n0 ≤ h0.size) (P0 : Exa Z h0 a1 "java/lang/String") (P1 : Fld Z h0 a1 "java/lang/String" "value" "[B" (.ref x1)) (P2 : Fld Z h0 a1 "java/lang/String" "coder" "B" (.int (0 : Int32))) (P3 : ArF Z h0 x1 .byte n1 (fun i => .int ((own_lo gc) i))) (P4 : Old Z n0 h0) (hi1 : 0 ≤ i1.toInt ∧ i1.toInt ≤ 127) (hnz : ∀ i, i < n1 → ¬ (gc i).toInt = i1.toInt) (hn1 : 1 ≤ n1) (hn3 : n1 ≤ 3) (hgc : ∀ i, i < n1 → 0 ≤ (gc i).toInt ∧ (gc i).toInt ≤ 255) (O2 : Sta Z Z.heap "java/lang/String" "COMPACT_STRINGS" "Z" (.int G1)) (hG1 : ¬ G1.toInt = 0) :
    Con l Z (⟨"java/lang/String", "indexOf", "(I)I"⟩ : MethodName) jdk_42_method_79_code 2 (some .int) ({ frames := 3, cells := 0, slots := 0, locals := 46 } : Room) #[(.ref a1), (.int i1)] h0 (Q_rm_i1 Z a1 i1 x1 n1 gc G1 h0 n0) := by
  refine meet (y := (⟨"java/lang/String", "indexOf", "(I)I"⟩ : MethodName)) (Q := Q_rm_i1 Z a1 i1 x1 n1 gc G1 h0 n0) (plainFor_of_name pn_java_lang_String) (fun m => ef_rm_i1 m a1 i1) ?_
  intro p e s m below meth c T0 hx hby hml hZ hown hnm hret hlk X0 e0
  have N0 := Fr.nil n0
  refine g_aloadN X0 hx hby d19_0 (pc' := 1) rfl rfl rfl ?_
  refine g_iloadN X0 hx hby d19_1 (pc' := 2) rfl rfl ?_
  refine g_iconst X0 hx hby d19_2 (pc' := 3) rfl (z := (0 : Int32)) rfl ?_
  refine Go.callV X0 hx hZ hown (wi hw 84 rfl) (wi hw 85 rfl) (notFace_of_selects (args := #[]) (mvT hZ (wi hw 87 rfl))) (wi hw 87 rfl) (wi hw 86 rfl) (wi hw 7 rfl) (wi hw 88 rfl) (by decide) e0 (a := a1) (argsL := [(.int i1), (.int (0 : Int32))]) (rest := []) (W := 0) P0 (rm_i2 l Z a0 hw a1 i1 x1 n1 gc G1 h0 n0 Z0 P0 P1 P2 P3 P4 hi1 hnz (by omega) (by omega) hgc O2 hG1) (hb hby d19_3) (by rw [hml]; rfl) rfl pd13 rfl rfl (by decide) (by decide) (by decide) (by decide) ?_
  intro v1 T1 L1 X1 hQ1
  obtain ⟨rfl, Nq1, hh1⟩ := hQ1
  have N1 := Fr.app N0 Nq1
  refine Go.push (pc' := 6) rfl ?_
  refine Go.retI X1 hx hlk hret (hb hby d19_6) (by decide) (by decide) ?_
  exact ⟨rfl, N1, hh1⟩
theorem d9_0 : decode prog_18_method_15_code 0 = .ok (.aload_n 0, 1) := by decide +kernel
theorem d9_1 : decode prog_18_method_15_code 1 = .ok (.invokestatic 184, 3) := by decide +kernel
theorem pd15 : parseMethodDescriptor "(Ljava/lang/String;)Z" = some ⟨[(.object "java/lang/String")], some .boolean⟩ := by decide +kernel
theorem d9_4 : decode prog_18_method_15_code 4 = .ok (.ifCond .eq 17, 3) := by decide +kernel
theorem d9_21 : decode prog_18_method_15_code 21 = .ok (.aload_n 0, 1) := by decide +kernel
theorem d9_22 : decode prog_18_method_15_code 22 = .ok (.bipush 9, 2) := by decide +kernel
theorem d9_24 : decode prog_18_method_15_code 24 = .ok (.invokevirtual 90, 3) := by decide +kernel
theorem pd16 : parseMethodDescriptor "(I)I" = some ⟨[.int], some .int⟩ := by decide +kernel
theorem d9_27 : decode prog_18_method_15_code 27 = .ok (.ifCond .lt 17, 3) := by decide +kernel
theorem d9_44 : decode prog_18_method_15_code 44 = .ok (.aload_n 0, 1) := by decide +kernel
theorem d9_45 : decode prog_18_method_15_code 45 = .ok (.bipush 10, 2) := by decide +kernel
theorem d9_47 : decode prog_18_method_15_code 47 = .ok (.invokevirtual 90, 3) := by decide +kernel
theorem d9_50 : decode prog_18_method_15_code 50 = .ok (.ifCond .ge 12, 3) := by decide +kernel
theorem d9_53 : decode prog_18_method_15_code 53 = .ok (.aload_n 0, 1) := by decide +kernel
theorem d9_54 : decode prog_18_method_15_code 54 = .ok (.bipush 13, 2) := by decide +kernel
theorem d9_56 : decode prog_18_method_15_code 56 = .ok (.invokevirtual 90, 3) := by decide +kernel
theorem d9_59 : decode prog_18_method_15_code 59 = .ok (.ifCond .lt 17, 3) := by decide +kernel
theorem d9_76 : decode prog_18_method_15_code 76 = .ok (.aload_n 0, 1) := by decide +kernel
theorem d9_77 : decode prog_18_method_15_code 77 = .ok (.areturn, 1) := by decide +kernel
theorem ef_rm_chk (m : MethodId) (x0 : Addr) : entryFrame m #[(.ref x0)] 1 = mkF m 0 #[.val (.ref x0)] [] := by first | (simp [entryFrame, mkF, argsToLocals, Value.category]; done) | rfl
abbrev Q_rm_chk (Z : State) (a1 : Addr) (x1 : Addr) (n1 : Nat) (gc : Nat → Int32) (j0 : Nat) (G1 : Int32) (G3 : Value) (h0 : Heap) (n0 : Nat) : Option Value → Heap → List Loc → Prop := fun v h L => v = some (.ref a1) ∧ Fr n0 L ∧ h = h0
set_option maxRecDepth 65536 in
set_option maxHeartbeats 40000000 in
theorem rm_chk (l : Launch) (Z : State) (a0 : Array Value) (hw : ∀ d ∈ tables_1, d.before a0 Z = true) (a1 : Addr) (x1 : Addr) (n1 : Nat) (gc : Nat → Int32) (j0 : Nat) (G1 : Int32) (G3 : Value) (h0 : Heap) (n0 : Nat) (Z0 : n0 ≤ h0.size) (P0 : Exa Z h0 a1 "java/lang/String") (P1 : Fld Z h0 a1 "java/lang/String" "value" "[B" (.ref x1)) (P2 : Fld Z h0 a1 "java/lang/String" "coder" "B" (.int (0 : Int32))) (P3 : ArF Z h0 x1 .byte n1 (fun i => .int ((own_lo gc) i))) (P4 : Old Z n0 h0) (hj0 : j0 < n1) (hj : ¬ (gc j0).toInt = 32 ∧ ¬ (gc j0).toInt = 9) (hn9c : ∀ i, i < n1 → ¬ (gc i).toInt = 9) (hn10c : ∀ i, i < n1 → ¬ (gc i).toInt = 10) (hn13c : ∀ i, i < n1 → ¬ (gc i).toInt = 13) (hn1 : 1 ≤ n1) (hn3 : n1 ≤ 3) (hgc : ∀ i, i < n1 → 0 ≤ (gc i).toInt ∧ (gc i).toInt ≤ 255) (O2 : Sta Z Z.heap "java/lang/String" "COMPACT_STRINGS" "Z" (.int G1)) (hG1 : ¬ G1.toInt = 0) (O4 : Sta Z Z.heap "jdk/internal/util/Preconditions" "SIOOBE_FORMATTER" "Ljava/util/function/BiFunction;" G3) (rG3 : G3.isRef = true) :
    Con l Z (⟨"com/example/firstfail/firstfail/formats/PlainText", "checkedTestId", "(Ljava/lang/String;)Ljava/lang/String;"⟩ : MethodName) prog_18_method_15_code 1 (some (.object "java/lang/String")) ({ frames := 5, cells := 0, slots := 0, locals := 66 } : Room) #[(.ref a1)] h0 (Q_rm_chk Z a1 x1 n1 gc j0 G1 G3 h0 n0) := by
  refine meet (y := (⟨"com/example/firstfail/firstfail/formats/PlainText", "checkedTestId", "(Ljava/lang/String;)Ljava/lang/String;"⟩ : MethodName)) (Q := Q_rm_chk Z a1 x1 n1 gc j0 G1 G3 h0 n0) (plainFor_of_name pn_com_example_firstfail_firstfail_formats_PlainText) (fun m => ef_rm_chk m a1) ?_
  intro p e s m below meth c T0 hx hby hml hZ hown hnm hret hlk X0 e0
  have N0 := Fr.nil n0
  refine g_aloadN X0 hx hby d9_0 (pc' := 1) rfl rfl rfl ?_
  refine Go.callS X0 hx hZ hown (wi hw 41 rfl) (wi hw 42 rfl) (wi hw 39 rfl) (wi hw 43 rfl) (by decide) e0 (argsL := [(.ref a1)]) (rest := []) (W := 0) (rm_bl l Z a0 hw a1 x1 n1 gc j0 G1 G3 h0 n0 Z0 P0 P1 P2 P3 P4 hj0 hj (by omega) (by omega) hgc O2 hG1 O4 rG3) (hb hby d9_1) (by rw [hml]; rfl) rfl pd15 rfl rfl (by decide) (by decide) (by decide) (by decide) ?_
  intro v1 T1 L1 X1 hQ1
  obtain ⟨rfl, Nq1, hh1⟩ := hQ1
  have N1 := Fr.app N0 Nq1
  refine Go.push (pc' := 4) rfl ?_
  have hc4 : (0 : Int) = (0 : Int) := by decide
  refine g_ifYes X1 hx hby d9_4 (pc' := 21) (teq (show (0 : Int32) = (0 : Int32) from Int32.toInt_inj.mp hc4)).1 (by decide) (by decide) ?_
  refine g_aloadN X1 hx hby d9_21 (pc' := 22) rfl rfl rfl ?_
  refine g_bipush X1 hx hby d9_22 (pc' := 24) rfl (z := (9 : Int32)) rfl ?_
  refine Go.callV X1 hx hZ hown (wi hw 79 rfl) (wi hw 80 rfl) (notFace_of_selects (args := #[]) (mvT hZ (wi hw 82 rfl))) (wi hw 82 rfl) (wi hw 81 rfl) (wi hw 7 rfl) (wi hw 83 rfl) (by decide) hh1 (a := a1) (argsL := [(.int (9 : Int32))]) (rest := []) (W := 0) P0 (rm_i1 l Z a0 hw a1 (9 : Int32) x1 n1 gc G1 h0 n0 Z0 P0 P1 P2 P3 P4 (by decide) (fun i hi => hn9c i hi) (by omega) (by omega) hgc O2 hG1) (hb hby d9_24) (by rw [hml]; rfl) rfl pd16 rfl rfl (by decide) (by decide) (by decide) (by decide) ?_
  intro v2 T2 L2 X2 hQ2
  obtain ⟨rfl, Nq2, hh2⟩ := hQ2
  have N2 := Fr.app N1 Nq2
  refine Go.push (pc' := 27) rfl ?_
  have hc27 : (-1 : Int) < (0 : Int) := by decide
  refine g_ifYes X2 hx hby d9_27 (pc' := 44) (tlt (show (-1 : Int32) < (0 : Int32) from Int32.lt_iff_toInt_lt.mpr hc27)).1 (by decide) (by decide) ?_
  refine g_aloadN X2 hx hby d9_44 (pc' := 45) rfl rfl rfl ?_
  refine g_bipush X2 hx hby d9_45 (pc' := 47) rfl (z := (10 : Int32)) rfl ?_
  refine Go.callV X2 hx hZ hown (wi hw 79 rfl) (wi hw 80 rfl) (notFace_of_selects (args := #[]) (mvT hZ (wi hw 82 rfl))) (wi hw 82 rfl) (wi hw 81 rfl) (wi hw 7 rfl) (wi hw 83 rfl) (by decide) hh2 (a := a1) (argsL := [(.int (10 : Int32))]) (rest := []) (W := 0) P0 (rm_i1 l Z a0 hw a1 (10 : Int32) x1 n1 gc G1 h0 n0 Z0 P0 P1 P2 P3 P4 (by decide) (fun i hi => hn10c i hi) (by omega) (by omega) hgc O2 hG1) (hb hby d9_47) (by rw [hml]; rfl) rfl pd16 rfl rfl (by decide) (by decide) (by decide) (by decide) ?_
  intro v3 T3 L3 X3 hQ3
  obtain ⟨rfl, Nq3, hh3⟩ := hQ3
  have N3 := Fr.app N2 Nq3
  refine Go.push (pc' := 50) rfl ?_
  have hc50 : (-1 : Int) < (0 : Int) := by decide
  refine g_ifNo X3 hx hby d9_50 (pc' := 53) (tlt (show (-1 : Int32) < (0 : Int32) from Int32.lt_iff_toInt_lt.mpr hc50)).2.1 rfl ?_
  refine g_aloadN X3 hx hby d9_53 (pc' := 54) rfl rfl rfl ?_
  refine g_bipush X3 hx hby d9_54 (pc' := 56) rfl (z := (13 : Int32)) rfl ?_
  refine Go.callV X3 hx hZ hown (wi hw 79 rfl) (wi hw 80 rfl) (notFace_of_selects (args := #[]) (mvT hZ (wi hw 82 rfl))) (wi hw 82 rfl) (wi hw 81 rfl) (wi hw 7 rfl) (wi hw 83 rfl) (by decide) hh3 (a := a1) (argsL := [(.int (13 : Int32))]) (rest := []) (W := 0) P0 (rm_i1 l Z a0 hw a1 (13 : Int32) x1 n1 gc G1 h0 n0 Z0 P0 P1 P2 P3 P4 (by decide) (fun i hi => hn13c i hi) (by omega) (by omega) hgc O2 hG1) (hb hby d9_56) (by rw [hml]; rfl) rfl pd16 rfl rfl (by decide) (by decide) (by decide) (by decide) ?_
  intro v4 T4 L4 X4 hQ4
  obtain ⟨rfl, Nq4, hh4⟩ := hQ4
  have N4 := Fr.app N3 Nq4
  refine Go.push (pc' := 59) rfl ?_
  have hc59 : (-1 : Int) < (0 : Int) := by decide
  refine g_ifYes X4 hx hby d9_59 (pc' := 76) (tlt (show (-1 : Int32) < (0 : Int32) from Int32.lt_iff_toInt_lt.mpr hc59)).1 (by decide) (by decide) ?_
  refine g_aloadN X4 hx hby d9_76 (pc' := 77) rfl rfl rfl ?_
  refine Go.retA X4 hx hlk hret rfl rfl (hb hby d9_77) (by decide) (by decide) ?_
  exact ⟨rfl, N4, hh4⟩
theorem d26_0 : decode jdk_42_method_66_code 0 = .ok (.aload_n 0, 1) := by decide +kernel
theorem d26_1 : decode jdk_42_method_66_code 1 = .ok (.aload_n 1, 1) := by decide +kernel
theorem d26_2 : decode jdk_42_method_66_code 2 = .ok (.if_acmp .ne 5, 3) := by decide +kernel
theorem d26_5 : decode jdk_42_method_66_code 5 = .ok (.iconst 1, 1) := by decide +kernel
theorem d26_6 : decode jdk_42_method_66_code 6 = .ok (.ireturn, 1) := by decide +kernel
theorem ef_rm_eq (m : MethodId) (x0 : Addr) (x1 : Addr) : entryFrame m #[(.ref x0), (.ref x1)] 3 = mkF m 0 #[.val (.ref x0), .val (.ref x1), .unset] [] := by first | (simp [entryFrame, mkF, argsToLocals, Value.category]; done) | rfl
abbrev Q_rm_eq (Z : State) (a1 : Addr) (a2 : Addr) (h0 : Heap) (n0 : Nat) : Option Value → Heap → List Loc → Prop := fun v h L => v = some (.int (1 : Int32)) ∧ Fr n0 L ∧ h = h0
set_option maxRecDepth 65536 in
set_option maxHeartbeats 40000000 in
theorem rm_eq (l : Launch) (Z : State) (a0 : Array Value) (hw : ∀ d ∈ tables_1, d.before a0 Z = true) (a1 : Addr) (a2 : Addr) (h0 : Heap) (n0 : Nat) (Z0 : n0 ≤ h0.size) (heq : a2 = a1) :
    Con l Z (⟨"java/lang/String", "equals", "(Ljava/lang/Object;)Z"⟩ : MethodName) jdk_42_method_66_code 3 (some .boolean) ({ frames := 0, cells := 0, slots := 0, locals := 0 } : Room) #[(.ref a1), (.ref a2)] h0 (Q_rm_eq Z a1 a2 h0 n0) := by
  refine meet (y := (⟨"java/lang/String", "equals", "(Ljava/lang/Object;)Z"⟩ : MethodName)) (Q := Q_rm_eq Z a1 a2 h0 n0) (plainFor_of_name pn_java_lang_String) (fun m => ef_rm_eq m a1 a2) ?_
  intro p e s m below meth c T0 hx hby hml hZ hown hnm hret hlk X0 e0
  have N0 := Fr.nil n0
  subst heq
  show Go p.tables e below s _ _ _ (T0.setTop (mkF m 0 #[.val (.ref a2), .val (.ref a2), .unset] []))
  refine g_aloadN X0 hx hby d26_0 (pc' := 1) rfl rfl rfl ?_
  refine g_aloadN X0 hx hby d26_1 (pc' := 2) rfl rfl rfl ?_
  refine Go.of (fun _ k => Jvm.RoadKit.acmp X0 hx rfl (cd := .ne) (x := (.ref a2)) (y := (.ref a2)) rfl rfl (pc0 := 2) (pc' := 5) (same := true) rfl (hb hby d26_2) rfl (decide_eq_true rfl) (by decide) rfl k) ?_
  show Go p.tables e below s _ _ _ (T0.setTop (mkF m 5 #[.val (.ref a2), .val (.ref a2), .unset] []))
  refine g_iconst X0 hx hby d26_5 (pc' := 6) rfl (z := (1 : Int32)) rfl ?_
  refine Go.retZ X0 hx hlk hret (by simp) (hb hby d26_6) (by decide) (by decide) ?_
  exact ⟨rfl, N0, e0⟩
theorem pd17 : parseMethodDescriptor "([C)V" = some ⟨[(.array .char)], none⟩ := by decide +kernel
theorem pd18 : parseMethodDescriptor "(Ljava/lang/String;)Ljava/lang/String;" = some ⟨[(.object "java/lang/String")], some (.object "java/lang/String")⟩ := by decide +kernel
theorem pd19 : parseMethodDescriptor "(Ljava/lang/Object;)Z" = some ⟨[(.object "java/lang/Object")], some .boolean⟩ := by decide +kernel
theorem ef_rm0 (m : MethodId) (x0 : Int32) (x1 : Int32) (x2 : Int32) (x3 : Int32) : entryFrame m #[(.int x0), (.int x1), (.int x2), (.int x3)] maxLocals = mkF m 0 #[.val (.int x0), .val (.int x1), .val (.int x2), .val (.int x3), .unset, .unset, .unset, .unset, .unset, .unset, .unset, .unset, .unset, .unset, .unset] [] := by first | (simp [entryFrame, mkF, argsToLocals, Value.category, maxLocals]; done) | rfl
set_option maxRecDepth 65536 in
set_option maxHeartbeats 40000000 in
theorem rm0 (l : Launch) (Z : State) (a0 : Array Value) (hw : ∀ d ∈ tables_1, d.before a0 Z = true) (ws : List Jvm.Cond) (p1 p2 p3 p4 : Int32) (G1 : Int32) (G3 : Value) (h0 : Heap) (n0 : Nat) (Z0 : n0 ≤ h0.size) (O2 : Sta Z Z.heap "java/lang/String" "COMPACT_STRINGS" "Z" (.int G1)) (hG1 : ¬ G1.toInt = 0) (O4 : Sta Z Z.heap "jdk/internal/util/Preconditions" "SIOOBE_FORMATTER" "Ljava/util/function/BiFunction;" G3) (rG3 : G3.isRef = true) (X00 : Old Z n0 h0) :
    MetFree l x (head1 (Jvm.Cond.code x code maxLocals ret :: ws) room_1) (fun a U => a = #[(.int p1), (.int p2), (.int p3), (.int p4)] ∧ Z.Warmed39 U.vm ∧ U.heap = h0) (fun _ _ _ _ _ => True) (fun _ U o U' => ∃ v L, o = .returned v ∧ (fun v h L => v = some (.int 1) ∧ Fr n0 L) v U'.heap L ∧ FrameEnd U o U' L room_1.cells room_1.slots) := by
  refine meet (y := x) (Q := fun v h L => v = some (.int 1) ∧ Fr n0 L) (plainFor_of_name pn_com_example_firstfail_firstfail_formats_PlainTextCheckedTestIdPinLaw) (fun m => ef_rm0 m p1 p2 p3 p4) ?_
  intro p e s m below meth c T0 hx hby hml hZ hown hnm hret hlk X0 e0
  have N0 := Fr.nil n0
  have hml : c.maxLocals = 15 := hml
  refine g_iloadN X0 hx hby at_0 (pc' := 1) rfl rfl ?_
  refine g_iconst X0 hx hby at_1 (pc' := 2) rfl (z := (3 : Int32)) rfl ?_
  refine g_iand X0 hx hby at_2 (pc' := 3) rfl rfl ?_
  generalize hv1 : (p1 &&& (3 : Int32)) = v1
  refine g_istore X0 hx hby at_3 (pc' := 5) rfl (L' := #[.val (.int p1), .val (.int p2), .val (.int p3), .val (.int p4), .val (.int v1), .unset, .unset, .unset, .unset, .unset, .unset, .unset, .unset, .unset, .unset]) rfl ?_
  refine Go.join (α := Int32) (P := fun x => (fun (nv : Int32) => nv = (1 : Int32) ∨ nv = (2 : Int32) ∨ nv = (3 : Int32)) x) (F := fun x => (fun (nv : Int32) => T0.setTop (mkF m 13 #[.val (.int p1), .val (.int p2), .val (.int p3), .val (.int p4), .val (.int nv), .unset, .unset, .unset, .unset, .unset, .unset, .unset, .unset, .unset, .unset] [])) x) ?_ ?_
  · rintro nv hJ13
    show Go p.tables e below s _ _ _ (T0.setTop (mkF m 13 #[.val (.int p1), .val (.int p2), .val (.int p3), .val (.int p4), .val (.int nv), .unset, .unset, .unset, .unset, .unset, .unset, .unset, .unset, .unset, .unset] []))
    refine g_iloadN X0 hx hby at_13 (pc' := 14) rfl rfl ?_
    refine Go.callS X0 hx hZ hown (wi hw 0 rfl) (wi hw 1 rfl) (wi hw 2 rfl) (wi hw 3 rfl) (by decide) e0 (argsL := [(.int p2)]) (rest := []) (W := 0) (rm_ch l Z a0 hw p2 h0 n0 Z0 ) (hb hby at_14) (by rw [hml]; rfl) rfl pd10 rfl rfl (by decide) (by decide) (by decide) (by decide) ?_
    intro v2 T2 L2 X2 hQ2
    obtain ⟨rfl, Nq2, hh2⟩ := hQ2
    have N2 := Fr.app N0 Nq2
    refine Go.push (pc' := 17) rfl ?_
    generalize hv3 : (own_ch p2) = v3
    refine g_istore X2 hx hby at_17 (pc' := 19) rfl (L' := #[.val (.int p1), .val (.int p2), .val (.int p3), .val (.int p4), .val (.int nv), .val (.int v3), .unset, .unset, .unset, .unset, .unset, .unset, .unset, .unset, .unset]) rfl ?_
    refine g_iloadN X2 hx hby at_19 (pc' := 20) rfl rfl ?_
    refine Go.callS X2 hx hZ hown (wi hw 0 rfl) (wi hw 1 rfl) (wi hw 2 rfl) (wi hw 3 rfl) (by decide) hh2 (argsL := [(.int p3)]) (rest := []) (W := 0) (rm_ch l Z a0 hw p3 h0 n0 Z0 ) (hb hby at_20) (by rw [hml]; rfl) rfl pd10 rfl rfl (by decide) (by decide) (by decide) (by decide) ?_
    intro v4 T4 L4 X4 hQ4
    obtain ⟨rfl, Nq4, hh4⟩ := hQ4
    have N4 := Fr.app N2 Nq4
    refine Go.push (pc' := 23) rfl ?_
    generalize hv5 : (own_ch p3) = v5
    refine g_istore X4 hx hby at_23 (pc' := 25) rfl (L' := #[.val (.int p1), .val (.int p2), .val (.int p3), .val (.int p4), .val (.int nv), .val (.int v3), .val (.int v5), .unset, .unset, .unset, .unset, .unset, .unset, .unset, .unset]) rfl ?_
    refine g_iloadN X4 hx hby at_25 (pc' := 26) rfl rfl ?_
    refine Go.callS X4 hx hZ hown (wi hw 0 rfl) (wi hw 1 rfl) (wi hw 2 rfl) (wi hw 3 rfl) (by decide) hh4 (argsL := [(.int p4)]) (rest := []) (W := 0) (rm_ch l Z a0 hw p4 h0 n0 Z0 ) (hb hby at_26) (by rw [hml]; rfl) rfl pd10 rfl rfl (by decide) (by decide) (by decide) (by decide) ?_
    intro v6 T6 L6 X6 hQ6
    obtain ⟨rfl, Nq6, hh6⟩ := hQ6
    have N6 := Fr.app N4 Nq6
    refine Go.push (pc' := 29) rfl ?_
    generalize hv7 : (own_ch p4) = v7
    refine g_istore X6 hx hby at_29 (pc' := 31) rfl (L' := #[.val (.int p1), .val (.int p2), .val (.int p3), .val (.int p4), .val (.int nv), .val (.int v3), .val (.int v5), .val (.int v7), .unset, .unset, .unset, .unset, .unset, .unset, .unset]) rfl ?_
    have r5 : 0 ≤ v3.toInt ∧ v3.toInt ≤ 255 := by rw [← hv3]; exact own_ch_r _
    have r6 : 0 ≤ v5.toInt ∧ v5.toInt ≤ 255 := by rw [← hv5]; exact own_ch_r _
    have r7 : 0 ≤ v7.toInt ∧ v7.toInt ≤ 255 := by rw [← hv7]; exact own_ch_r _
    refine g_iconst X6 hx hby at_31 (pc' := 32) rfl (z := (1 : Int32)) rfl ?_
    refine Go.newarr X6 hx hZ (n := 1) (cap := 1) (ty := .char) rfl (wi hw 4 rfl) hh6 (by decide) rfl (by decide) (by decide) (by decide) (by decide) (hb hby at_32) (pc' := 34) rfl ?_
    intro T8 h8 b8 X8 e8 E8 hb8 V8
    have g9 : n0 ≤ b8 := by rw [hb8]; exact Z0
    have V10 : ArF Z h8 b8 .char 1 (fun i => .int ((fun _ => (0 : Int32)) i)) := V8
    refine g_dup X8 hx hby at_34 (pc' := 35) rfl rfl ?_
    refine g_iconst X8 hx hby at_35 (pc' := 36) rfl (z := (0 : Int32)) rfl ?_
    refine g_iload X8 hx hby at_36 (pc' := 38) rfl rfl ?_
    refine Go.castore X8 hx hZ e8 V10 (k := 0) rfl (by decide) (hb hby at_38) (pc' := 39) rfl ?_
    intro T11 h11 X11 e11 W11 V11
    refine g_astore X11 hx hby at_39 (pc' := 41) rfl rfl (L' := #[.val (.int p1), .val (.int p2), .val (.int p3), .val (.int p4), .val (.int nv), .val (.int v3), .val (.int v5), .val (.int v7), .val (.ref b8), .unset, .unset, .unset, .unset, .unset, .unset]) rfl ?_
    refine g_iconst X11 hx hby at_41 (pc' := 42) rfl (z := (2 : Int32)) rfl ?_
    refine Go.newarr X11 hx hZ (n := 2) (cap := 2) (ty := .char) rfl (wi hw 4 rfl) e11 (by decide) rfl (by decide) (by decide) (by decide) (by decide) (hb hby at_42) (pc' := 44) rfl ?_
    intro T12 h12 b12 X12 e12 E12 hb12 V12
    have g13 : n0 ≤ b12 := by rw [hb12]; exact (Nat.le_trans (Nat.le_trans Z0 E8.1) (Nat.le_of_eq (Wr.size W11).symm))
    have V14 : ArF Z h12 b12 .char 2 (fun i => .int ((fun _ => (0 : Int32)) i)) := V12
    refine g_dup X12 hx hby at_44 (pc' := 45) rfl rfl ?_
    refine g_iconst X12 hx hby at_45 (pc' := 46) rfl (z := (0 : Int32)) rfl ?_
    refine g_iload X12 hx hby at_46 (pc' := 48) rfl rfl ?_
    refine Go.castore X12 hx hZ e12 V14 (k := 0) rfl (by decide) (hb hby at_48) (pc' := 49) rfl ?_
    intro T15 h15 X15 e15 W15 V15
    refine g_dup X15 hx hby at_49 (pc' := 50) rfl rfl ?_
    refine g_iconst X15 hx hby at_50 (pc' := 51) rfl (z := (1 : Int32)) rfl ?_
    refine g_iload X15 hx hby at_51 (pc' := 53) rfl rfl ?_
    refine Go.castore X15 hx hZ e15 V15 (k := 1) rfl (by decide) (hb hby at_53) (pc' := 54) rfl ?_
    intro T16 h16 X16 e16 W16 V16
    have z17 : n0 ≤ h16.size := (Nat.le_trans (Nat.le_trans (Nat.le_trans (Nat.le_trans (Nat.le_trans Z0 E8.1) (Nat.le_of_eq (Wr.size W11).symm)) E12.1) (Nat.le_of_eq (Wr.size W15).symm)) (Nat.le_of_eq (Wr.size W16).symm))
    refine g_astore X16 hx hby at_54 (pc' := 56) rfl rfl (L' := #[.val (.int p1), .val (.int p2), .val (.int p3), .val (.int p4), .val (.int nv), .val (.int v3), .val (.int v5), .val (.int v7), .val (.ref b8), .val (.ref b12), .unset, .unset, .unset, .unset, .unset]) rfl ?_
    refine g_iconst X16 hx hby at_56 (pc' := 57) rfl (z := (3 : Int32)) rfl ?_
    refine Go.newarr X16 hx hZ (n := 3) (cap := 3) (ty := .char) rfl (wi hw 4 rfl) e16 (by decide) rfl (by decide) (by decide) (by decide) (by decide) (hb hby at_57) (pc' := 59) rfl ?_
    intro T18 h18 b18 X18 e18 E18 hb18 V18
    have g19 : n0 ≤ b18 := by rw [hb18]; exact z17
    have V20 : ArF Z h18 b18 .char 3 (fun i => .int ((fun _ => (0 : Int32)) i)) := V18
    refine g_dup X18 hx hby at_59 (pc' := 60) rfl rfl ?_
    refine g_iconst X18 hx hby at_60 (pc' := 61) rfl (z := (0 : Int32)) rfl ?_
    refine g_iload X18 hx hby at_61 (pc' := 63) rfl rfl ?_
    refine Go.castore X18 hx hZ e18 V20 (k := 0) rfl (by decide) (hb hby at_63) (pc' := 64) rfl ?_
    intro T21 h21 X21 e21 W21 V21
    refine g_dup X21 hx hby at_64 (pc' := 65) rfl rfl ?_
    refine g_iconst X21 hx hby at_65 (pc' := 66) rfl (z := (1 : Int32)) rfl ?_
    refine g_iload X21 hx hby at_66 (pc' := 68) rfl rfl ?_
    refine Go.castore X21 hx hZ e21 V21 (k := 1) rfl (by decide) (hb hby at_68) (pc' := 69) rfl ?_
    intro T22 h22 X22 e22 W22 V22
    refine g_dup X22 hx hby at_69 (pc' := 70) rfl rfl ?_
    refine g_iconst X22 hx hby at_70 (pc' := 71) rfl (z := (2 : Int32)) rfl ?_
    refine g_iload X22 hx hby at_71 (pc' := 73) rfl rfl ?_
    refine Go.castore X22 hx hZ e22 V22 (k := 2) rfl (by decide) (hb hby at_73) (pc' := 74) rfl ?_
    intro T23 h23 X23 e23 W23 V23
    have z24 : n0 ≤ h23.size := (Nat.le_trans (Nat.le_trans (Nat.le_trans (Nat.le_trans z17 E18.1) (Nat.le_of_eq (Wr.size W21).symm)) (Nat.le_of_eq (Wr.size W22).symm)) (Nat.le_of_eq (Wr.size W23).symm))
    refine g_astore X23 hx hby at_74 (pc' := 76) rfl rfl (L' := #[.val (.int p1), .val (.int p2), .val (.int p3), .val (.int p4), .val (.int nv), .val (.int v3), .val (.int v5), .val (.int v7), .val (.ref b8), .val (.ref b12), .val (.ref b18), .unset, .unset, .unset, .unset]) rfl ?_
    have ne25 : b8 ≠ b12 := Nat.ne_of_lt (by rw [hb12]; exact V11.lt)
    have ne26 : b8 ≠ b18 := Nat.ne_of_lt (by rw [hb18]; exact (((V11.ext E12).other W15 ne25).other W16 ne25).lt)
    have f27 := (((((((V11.ext E12).other W15 ne25).other W16 ne25).ext E18).other W21 ne26).other W22 ne26).other W23 ne26)
    have V28 : ArF Z h23 b8 .char 1 (fun i => .int ((own_l [v3]) i)) := f27.congr (fun i hi => by have q : i = 0 := (by omega); subst q; exact congrArg Value.int (own_nc r5).symm)
    have ne29 : b12 ≠ b18 := Nat.ne_of_lt (by rw [hb18]; exact V16.lt)
    have f30 := ((((V16.ext E18).other W21 ne29).other W22 ne29).other W23 ne29)
    have V31 : ArF Z h23 b12 .char 2 (fun i => .int ((own_l [v3, v5]) i)) := f30.congr (fun i hi => by rcases (by omega : i = 0 ∨ i = 1) with rfl | rfl <;> first | exact congrArg Value.int (own_nc r5).symm | exact congrArg Value.int (own_nc r6).symm)
    have V32 : ArF Z h23 b18 .char 3 (fun i => .int ((own_l [v3, v5, v7]) i)) := V23.congr (fun i hi => by rcases (by omega : i = 0 ∨ i = 1 ∨ i = 2) with rfl | rfl | rfl <;> first | exact congrArg Value.int (own_nc r5).symm | exact congrArg Value.int (own_nc r6).symm | exact congrArg Value.int (own_nc r7).symm)
    rcases hJ13 with rfl | rfl | rfl
    · show Go p.tables e below s _ _ _ (T23.setTop (mkF m 76 #[.val (.int p1), .val (.int p2), .val (.int p3), .val (.int p4), .val (.int (1 : Int32)), .val (.int v3), .val (.int v5), .val (.int v7), .val (.ref b8), .val (.ref b12), .val (.ref b18), .unset, .unset, .unset, .unset] []))
      have hgc := own_rg1 (P := fun z => 0 ≤ z.toInt ∧ z.toInt ≤ 255) r5
      refine g_iload X23 hx hby at_76 (pc' := 78) rfl rfl ?_
      refine g_iconst X23 hx hby at_78 (pc' := 79) rfl (z := (1 : Int32)) rfl ?_
      have hc79 : (1 : Int) = (1 : Int) := by decide
      refine g_icmpNo X23 hx hby at_79 (pc' := 82) (teq (show (1 : Int32) = (1 : Int32) from Int32.toInt_inj.mp hc79)).2 rfl ?_
      refine g_new X23 hx hby hZ hown (wi hw 5 rfl) (wi hw 6 rfl) (wi hw 7 rfl) e23 at_82 (pc' := 85) rfl (by decide) (by decide) ?_
      intro T33 h33 b33 X33 e33 E33 hb33 A33 D33
      have g34 : n0 ≤ b33 := by rw [hb33]; exact z24
      have F35 : Fld Z h33 b33 "java/lang/String" "coder" "B" (.int (0 : Int32)) := D33 (Or.inr (wi hw 31 rfl)) (ty := .byte) (by decide)
      have F36 : Fld Z h33 b33 "java/lang/String" "value" "[B" .null := D33 (Or.inr (wi hw 33 rfl)) (ty := (.array .byte)) (by decide)
      refine g_dup X33 hx hby at_85 (pc' := 86) rfl rfl ?_
      refine g_aload X33 hx hby at_86 (pc' := 88) rfl rfl rfl ?_
      have f38 := ((((((((((X00.ext E8).wr W11 g9).ext E12).wr W15 g13).wr W16 g13).ext E18).wr W21 g19).wr W22 g19).wr W23 g19).ext E33)
      have f39 := V28.ext E33
      have ne40 : b8 ≠ b33 := Nat.ne_of_lt (by rw [hb33]; exact V28.lt)
      refine Go.callI X33 hx hZ hown rfl (wi hw 8 rfl) (wi hw 9 rfl) (wi hw 7 rfl) (wi hw 10 rfl) (by decide) e33 (a := b33) (argsL := [(.ref b8)]) (rest := [(.ref b33)]) (W := 1) (rm_in1 l Z a0 hw b33 b8 1 (own_l [v3]) G1 h33 n0 (Nat.le_trans z24 E33.1) A33 F36 F35 f38 f39 ne40 g34 (by omega) (by omega) hgc O2 hG1) (hb hby at_88) (by rw [hml]; rfl) rfl pd17 rfl rfl (by decide) (by decide) (by decide) (by decide) ?_
      intro v37 T37 L37 X37 hQ37
      obtain ⟨h37, e37⟩ : ∃ z, T37.heap = z := ⟨_, rfl⟩
      rw [e37] at hQ37
      obtain ⟨b1_37, rfl, Nq37, Kq37, gqb1_37, sqb1_37, Fq0_37, Fq1_37, Fq2_37⟩ := hQ37
      have N37 := Fr.app (Fr.snoc X23 (Fr.snoc X22 (Fr.snoc X21 (Fr.snoc X16 (Fr.snoc X15 (Fr.snoc X11 N6 g9) g13) g13) g19) g19) g19) Nq37
      refine Go.void (pc' := 91) rfl ?_
      refine g_goto X37 hx hby at_91 (pc' := 121) (by decide) (by decide) ?_
      refine g_astore X37 hx hby at_121 (pc' := 123) rfl rfl (L' := #[.val (.int p1), .val (.int p2), .val (.int p3), .val (.int p4), .val (.int (1 : Int32)), .val (.int v3), .val (.int v5), .val (.int v7), .val (.ref b8), .val (.ref b12), .val (.ref b18), .val (.ref b33), .unset, .unset, .unset]) rfl ?_
      refine g_iload X37 hx hby at_123 (pc' := 125) rfl rfl ?_
      refine Go.callS X37 hx hZ hown (wi hw 34 rfl) (wi hw 35 rfl) (wi hw 2 rfl) (wi hw 36 rfl) (by decide) e37 (argsL := [(.int v3)]) (rest := []) (W := 0) (rm_bad l Z a0 hw v3 h37 n0 (Nat.le_trans (Nat.le_trans z24 E33.1) Kq37.1) ) (hb hby at_125) (by rw [hml]; rfl) rfl pd11 rfl rfl (by decide) (by decide) (by decide) (by decide) ?_
      intro v41 T41 L41 X41 hQ41
      obtain ⟨rfl, Nq41, hh41⟩ := hQ41
      have N41 := Fr.app N37 Nq41
      refine Go.push (pc' := 128) rfl ?_
      by_cases hc128 : (own_bad v3).toInt = (0 : Int)
      · refine g_ifNo X41 hx hby at_128 (pc' := 131) (teq (show (own_bad v3) = (0 : Int32) from Int32.toInt_inj.mp hc128)).2 rfl ?_
        refine g_iload X41 hx hby at_131 (pc' := 133) rfl rfl ?_
        refine g_iconst X41 hx hby at_133 (pc' := 134) rfl (z := (2 : Int32)) rfl ?_
        have hc134 : (1 : Int) < (2 : Int) := by decide
        refine g_icmpYes X41 hx hby at_134 (pc' := 145) (tlt (show (1 : Int32) < (2 : Int32) from Int32.lt_iff_toInt_lt.mpr hc134)).1 (by decide) (by decide) ?_
        refine g_iload X41 hx hby at_145 (pc' := 147) rfl rfl ?_
        refine g_iconst X41 hx hby at_147 (pc' := 148) rfl (z := (3 : Int32)) rfl ?_
        have hc148 : (1 : Int) < (3 : Int) := by decide
        refine g_icmpYes X41 hx hby at_148 (pc' := 163) (tlt (show (1 : Int32) < (3 : Int32) from Int32.lt_iff_toInt_lt.mpr hc148)).1 (by decide) (by decide) ?_
        refine g_iconst X41 hx hby at_163 (pc' := 164) rfl (z := (0 : Int32)) rfl ?_
        refine g_istore X41 hx hby at_164 (pc' := 166) rfl (L' := #[.val (.int p1), .val (.int p2), .val (.int p3), .val (.int p4), .val (.int (1 : Int32)), .val (.int v3), .val (.int v5), .val (.int v7), .val (.ref b8), .val (.ref b12), .val (.ref b18), .val (.ref b33), .val (.int (0 : Int32)), .unset, .unset]) rfl ?_
        refine g_iload X41 hx hby at_166 (pc' := 168) rfl rfl ?_
        refine g_bipush X41 hx hby at_168 (pc' := 170) rfl (z := (32 : Int32)) rfl ?_
        by_cases hc170 : v3.toInt = (32 : Int)
        · refine g_icmpNo X41 hx hby at_170 (pc' := 173) (teq (show v3 = (32 : Int32) from Int32.toInt_inj.mp hc170)).2 rfl ?_
          refine g_iload X41 hx hby at_173 (pc' := 175) rfl rfl ?_
          refine g_iconst X41 hx hby at_175 (pc' := 176) rfl (z := (2 : Int32)) rfl ?_
          have hc176 : (1 : Int) < (2 : Int) := by decide
          refine g_icmpYes X41 hx hby at_176 (pc' := 186) (tlt (show (1 : Int32) < (2 : Int32) from Int32.lt_iff_toInt_lt.mpr hc176)).1 (by decide) (by decide) ?_
          refine g_iload X41 hx hby at_186 (pc' := 188) rfl rfl ?_
          refine g_iconst X41 hx hby at_188 (pc' := 189) rfl (z := (3 : Int32)) rfl ?_
          have hc189 : (1 : Int) < (3 : Int) := by decide
          refine g_icmpYes X41 hx hby at_189 (pc' := 199) (tlt (show (1 : Int32) < (3 : Int32) from Int32.lt_iff_toInt_lt.mpr hc189)).1 (by decide) (by decide) ?_
          refine g_iconst X41 hx hby at_199 (pc' := 200) rfl (z := (1 : Int32)) rfl ?_
          refine g_goto X41 hx hby at_200 (pc' := 204) (by decide) (by decide) ?_
          refine g_istore X41 hx hby at_204 (pc' := 206) rfl (L' := #[.val (.int p1), .val (.int p2), .val (.int p3), .val (.int p4), .val (.int (1 : Int32)), .val (.int v3), .val (.int v5), .val (.int v7), .val (.ref b8), .val (.ref b12), .val (.ref b18), .val (.ref b33), .val (.int (0 : Int32)), .val (.int (1 : Int32)), .unset]) rfl ?_
          refine g_iload X41 hx hby at_206 (pc' := 208) rfl rfl ?_
          have hc208 : (0 : Int) = (0 : Int) := by decide
          refine g_ifNo X41 hx hby at_208 (pc' := 211) (teq (show (0 : Int32) = (0 : Int32) from Int32.toInt_inj.mp hc208)).2 rfl ?_
          refine g_iload X41 hx hby at_211 (pc' := 213) rfl rfl ?_
          have hc213 : ¬ ((1 : Int) = (0 : Int)) := by decide
          refine g_ifNo X41 hx hby at_213 (pc' := 216) (feq (show ¬ ((1 : Int32) = (0 : Int32)) from fun q => hc213 (congrArg Int32.toInt q))).1 rfl ?_
          refine g_iconst X41 hx hby at_216 (pc' := 217) rfl (z := (1 : Int32)) rfl ?_
          refine Go.retZ X41 hx hlk hret (by simp) (hb hby at_217) (by decide) (by decide) ?_
          exact ⟨rfl, N41⟩
        · refine g_icmpYes X41 hx hby at_170 (pc' := 203) (feq (show ¬ (v3 = (32 : Int32)) from fun q => hc170 (congrArg Int32.toInt q))).2 (by decide) (by decide) ?_
          refine g_iconst X41 hx hby at_203 (pc' := 204) rfl (z := (0 : Int32)) rfl ?_
          refine g_istore X41 hx hby at_204 (pc' := 206) rfl (L' := #[.val (.int p1), .val (.int p2), .val (.int p3), .val (.int p4), .val (.int (1 : Int32)), .val (.int v3), .val (.int v5), .val (.int v7), .val (.ref b8), .val (.ref b12), .val (.ref b18), .val (.ref b33), .val (.int (0 : Int32)), .val (.int (0 : Int32)), .unset]) rfl ?_
          refine g_iload X41 hx hby at_206 (pc' := 208) rfl rfl ?_
          have hc208 : (0 : Int) = (0 : Int) := by decide
          refine g_ifNo X41 hx hby at_208 (pc' := 211) (teq (show (0 : Int32) = (0 : Int32) from Int32.toInt_inj.mp hc208)).2 rfl ?_
          refine g_iload X41 hx hby at_211 (pc' := 213) rfl rfl ?_
          have hc213 : (0 : Int) = (0 : Int) := by decide
          refine g_ifYes X41 hx hby at_213 (pc' := 218) (teq (show (0 : Int32) = (0 : Int32) from Int32.toInt_inj.mp hc213)).1 (by decide) (by decide) ?_
          refine g_aload X41 hx hby at_218 (pc' := 220) rfl rfl rfl ?_
          have q0 := own_bad0 hc128
          have f43 := A33.keep Kq37
          have f44 := (f38.keep Kq37 (allS g34 all0))
          refine Go.callS X41 hx hZ hown (wi hw 37 rfl) (wi hw 38 rfl) (wi hw 39 rfl) (wi hw 40 rfl) (by decide) hh41 (argsL := [(.ref b33)]) (rest := []) (W := 0) (rm_chk l Z a0 hw b33 b1_37 1 (own_l [v3]) 0 G1 G3 h37 n0 (Nat.le_trans (Nat.le_trans z24 E33.1) Kq37.1) f43 Fq0_37 Fq1_37 Fq2_37 f44 (by decide) (by show ¬ v3.toInt = 32 ∧ ¬ v3.toInt = 9; omega) (own_rg1 (P := fun z => ¬ z.toInt = 9) q0.1) (own_rg1 (P := fun z => ¬ z.toInt = 10) q0.2.1) (own_rg1 (P := fun z => ¬ z.toInt = 13) q0.2.2) (by omega) (by omega) hgc O2 hG1 O4 rG3) (hb hby at_220) (by rw [hml]; rfl) rfl pd18 rfl rfl (by decide) (by decide) (by decide) (by decide) ?_
          intro v42 T42 L42 X42 hQ42
          obtain ⟨rfl, Nq42, hh42⟩ := hQ42
          have N42 := Fr.app N41 Nq42
          refine Go.push (pc' := 223) rfl ?_
          refine g_astore X42 hx hby at_223 (pc' := 225) rfl rfl (L' := #[.val (.int p1), .val (.int p2), .val (.int p3), .val (.int p4), .val (.int (1 : Int32)), .val (.int v3), .val (.int v5), .val (.int v7), .val (.ref b8), .val (.ref b12), .val (.ref b18), .val (.ref b33), .val (.int (0 : Int32)), .val (.int (0 : Int32)), .val (.ref b33)]) rfl ?_
          refine g_aload X42 hx hby at_225 (pc' := 227) rfl rfl rfl ?_
          refine g_aload X42 hx hby at_227 (pc' := 229) rfl rfl rfl ?_
          refine Go.callV X42 hx hZ hown (wi hw 106 rfl) (wi hw 107 rfl) (notFace_of_selects (args := #[]) (mvT hZ (wi hw 109 rfl))) (wi hw 109 rfl) (wi hw 108 rfl) (wi hw 7 rfl) (wi hw 110 rfl) (by decide) hh42 (a := b33) (argsL := [(.ref b33)]) (rest := []) (W := 0) f43 (rm_eq l Z a0 hw b33 b33 h37 n0 (Nat.le_trans (Nat.le_trans z24 E33.1) Kq37.1) rfl) (hb hby at_229) (by rw [hml]; rfl) rfl pd19 rfl rfl (by decide) (by decide) (by decide) (by decide) ?_
          intro v45 T45 L45 X45 hQ45
          obtain ⟨rfl, Nq45, hh45⟩ := hQ45
          have N45 := Fr.app N42 Nq45
          refine Go.push (pc' := 232) rfl ?_
          refine Go.retZ X45 hx hlk hret (by simp) (hb hby at_232) (by decide) (by decide) ?_
          exact ⟨rfl, N45⟩
      · refine g_ifYes X41 hx hby at_128 (pc' := 159) (feq (show ¬ ((own_bad v3) = (0 : Int32)) from fun q => hc128 (congrArg Int32.toInt q))).2 (by decide) (by decide) ?_
        refine g_iconst X41 hx hby at_159 (pc' := 160) rfl (z := (1 : Int32)) rfl ?_
        refine g_goto X41 hx hby at_160 (pc' := 164) (by decide) (by decide) ?_
        refine g_istore X41 hx hby at_164 (pc' := 166) rfl (L' := #[.val (.int p1), .val (.int p2), .val (.int p3), .val (.int p4), .val (.int (1 : Int32)), .val (.int v3), .val (.int v5), .val (.int v7), .val (.ref b8), .val (.ref b12), .val (.ref b18), .val (.ref b33), .val (.int (1 : Int32)), .unset, .unset]) rfl ?_
        refine g_iload X41 hx hby at_166 (pc' := 168) rfl rfl ?_
        refine g_bipush X41 hx hby at_168 (pc' := 170) rfl (z := (32 : Int32)) rfl ?_
        by_cases hc170 : v3.toInt = (32 : Int)
        · refine g_icmpNo X41 hx hby at_170 (pc' := 173) (teq (show v3 = (32 : Int32) from Int32.toInt_inj.mp hc170)).2 rfl ?_
          refine g_iload X41 hx hby at_173 (pc' := 175) rfl rfl ?_
          refine g_iconst X41 hx hby at_175 (pc' := 176) rfl (z := (2 : Int32)) rfl ?_
          have hc176 : (1 : Int) < (2 : Int) := by decide
          refine g_icmpYes X41 hx hby at_176 (pc' := 186) (tlt (show (1 : Int32) < (2 : Int32) from Int32.lt_iff_toInt_lt.mpr hc176)).1 (by decide) (by decide) ?_
          refine g_iload X41 hx hby at_186 (pc' := 188) rfl rfl ?_
          refine g_iconst X41 hx hby at_188 (pc' := 189) rfl (z := (3 : Int32)) rfl ?_
          have hc189 : (1 : Int) < (3 : Int) := by decide
          refine g_icmpYes X41 hx hby at_189 (pc' := 199) (tlt (show (1 : Int32) < (3 : Int32) from Int32.lt_iff_toInt_lt.mpr hc189)).1 (by decide) (by decide) ?_
          refine g_iconst X41 hx hby at_199 (pc' := 200) rfl (z := (1 : Int32)) rfl ?_
          refine g_goto X41 hx hby at_200 (pc' := 204) (by decide) (by decide) ?_
          refine g_istore X41 hx hby at_204 (pc' := 206) rfl (L' := #[.val (.int p1), .val (.int p2), .val (.int p3), .val (.int p4), .val (.int (1 : Int32)), .val (.int v3), .val (.int v5), .val (.int v7), .val (.ref b8), .val (.ref b12), .val (.ref b18), .val (.ref b33), .val (.int (1 : Int32)), .val (.int (1 : Int32)), .unset]) rfl ?_
          refine g_iload X41 hx hby at_206 (pc' := 208) rfl rfl ?_
          have hc208 : ¬ ((1 : Int) = (0 : Int)) := by decide
          refine g_ifYes X41 hx hby at_208 (pc' := 216) (feq (show ¬ ((1 : Int32) = (0 : Int32)) from fun q => hc208 (congrArg Int32.toInt q))).2 (by decide) (by decide) ?_
          refine g_iconst X41 hx hby at_216 (pc' := 217) rfl (z := (1 : Int32)) rfl ?_
          refine Go.retZ X41 hx hlk hret (by simp) (hb hby at_217) (by decide) (by decide) ?_
          exact ⟨rfl, N41⟩
        · refine g_icmpYes X41 hx hby at_170 (pc' := 203) (feq (show ¬ (v3 = (32 : Int32)) from fun q => hc170 (congrArg Int32.toInt q))).2 (by decide) (by decide) ?_
          refine g_iconst X41 hx hby at_203 (pc' := 204) rfl (z := (0 : Int32)) rfl ?_
          refine g_istore X41 hx hby at_204 (pc' := 206) rfl (L' := #[.val (.int p1), .val (.int p2), .val (.int p3), .val (.int p4), .val (.int (1 : Int32)), .val (.int v3), .val (.int v5), .val (.int v7), .val (.ref b8), .val (.ref b12), .val (.ref b18), .val (.ref b33), .val (.int (1 : Int32)), .val (.int (0 : Int32)), .unset]) rfl ?_
          refine g_iload X41 hx hby at_206 (pc' := 208) rfl rfl ?_
          have hc208 : ¬ ((1 : Int) = (0 : Int)) := by decide
          refine g_ifYes X41 hx hby at_208 (pc' := 216) (feq (show ¬ ((1 : Int32) = (0 : Int32)) from fun q => hc208 (congrArg Int32.toInt q))).2 (by decide) (by decide) ?_
          refine g_iconst X41 hx hby at_216 (pc' := 217) rfl (z := (1 : Int32)) rfl ?_
          refine Go.retZ X41 hx hlk hret (by simp) (hb hby at_217) (by decide) (by decide) ?_
          exact ⟨rfl, N41⟩
    · show Go p.tables e below s _ _ _ (T23.setTop (mkF m 76 #[.val (.int p1), .val (.int p2), .val (.int p3), .val (.int p4), .val (.int (2 : Int32)), .val (.int v3), .val (.int v5), .val (.int v7), .val (.ref b8), .val (.ref b12), .val (.ref b18), .unset, .unset, .unset, .unset] []))
      have hgc := own_rg2 (P := fun z => 0 ≤ z.toInt ∧ z.toInt ≤ 255) r5 r6
      refine g_iload X23 hx hby at_76 (pc' := 78) rfl rfl ?_
      refine g_iconst X23 hx hby at_78 (pc' := 79) rfl (z := (1 : Int32)) rfl ?_
      have hc79 : ¬ ((2 : Int) = (1 : Int)) := by decide
      refine g_icmpYes X23 hx hby at_79 (pc' := 94) (feq (show ¬ ((2 : Int32) = (1 : Int32)) from fun q => hc79 (congrArg Int32.toInt q))).2 (by decide) (by decide) ?_
      refine g_iload X23 hx hby at_94 (pc' := 96) rfl rfl ?_
      refine g_iconst X23 hx hby at_96 (pc' := 97) rfl (z := (2 : Int32)) rfl ?_
      have hc97 : (2 : Int) = (2 : Int) := by decide
      refine g_icmpNo X23 hx hby at_97 (pc' := 100) (teq (show (2 : Int32) = (2 : Int32) from Int32.toInt_inj.mp hc97)).2 rfl ?_
      refine g_new X23 hx hby hZ hown (wi hw 5 rfl) (wi hw 6 rfl) (wi hw 7 rfl) e23 at_100 (pc' := 103) rfl (by decide) (by decide) ?_
      intro T46 h46 b46 X46 e46 E46 hb46 A46 D46
      have g47 : n0 ≤ b46 := by rw [hb46]; exact z24
      have F48 : Fld Z h46 b46 "java/lang/String" "coder" "B" (.int (0 : Int32)) := D46 (Or.inr (wi hw 31 rfl)) (ty := .byte) (by decide)
      have F49 : Fld Z h46 b46 "java/lang/String" "value" "[B" .null := D46 (Or.inr (wi hw 33 rfl)) (ty := (.array .byte)) (by decide)
      refine g_dup X46 hx hby at_103 (pc' := 104) rfl rfl ?_
      refine g_aload X46 hx hby at_104 (pc' := 106) rfl rfl rfl ?_
      have f51 := ((((((((((X00.ext E8).wr W11 g9).ext E12).wr W15 g13).wr W16 g13).ext E18).wr W21 g19).wr W22 g19).wr W23 g19).ext E46)
      have f52 := V31.ext E46
      have ne53 : b12 ≠ b46 := Nat.ne_of_lt (by rw [hb46]; exact V31.lt)
      refine Go.callI X46 hx hZ hown rfl (wi hw 8 rfl) (wi hw 9 rfl) (wi hw 7 rfl) (wi hw 10 rfl) (by decide) e46 (a := b46) (argsL := [(.ref b12)]) (rest := [(.ref b46)]) (W := 1) (rm_in1 l Z a0 hw b46 b12 2 (own_l [v3, v5]) G1 h46 n0 (Nat.le_trans z24 E46.1) A46 F49 F48 f51 f52 ne53 g47 (by omega) (by omega) hgc O2 hG1) (hb hby at_106) (by rw [hml]; rfl) rfl pd17 rfl rfl (by decide) (by decide) (by decide) (by decide) ?_
      intro v50 T50 L50 X50 hQ50
      obtain ⟨h50, e50⟩ : ∃ z, T50.heap = z := ⟨_, rfl⟩
      rw [e50] at hQ50
      obtain ⟨b1_50, rfl, Nq50, Kq50, gqb1_50, sqb1_50, Fq0_50, Fq1_50, Fq2_50⟩ := hQ50
      have N50 := Fr.app (Fr.snoc X23 (Fr.snoc X22 (Fr.snoc X21 (Fr.snoc X16 (Fr.snoc X15 (Fr.snoc X11 N6 g9) g13) g13) g19) g19) g19) Nq50
      refine Go.void (pc' := 109) rfl ?_
      refine g_goto X50 hx hby at_109 (pc' := 121) (by decide) (by decide) ?_
      refine g_astore X50 hx hby at_121 (pc' := 123) rfl rfl (L' := #[.val (.int p1), .val (.int p2), .val (.int p3), .val (.int p4), .val (.int (2 : Int32)), .val (.int v3), .val (.int v5), .val (.int v7), .val (.ref b8), .val (.ref b12), .val (.ref b18), .val (.ref b46), .unset, .unset, .unset]) rfl ?_
      refine g_iload X50 hx hby at_123 (pc' := 125) rfl rfl ?_
      refine Go.callS X50 hx hZ hown (wi hw 34 rfl) (wi hw 35 rfl) (wi hw 2 rfl) (wi hw 36 rfl) (by decide) e50 (argsL := [(.int v3)]) (rest := []) (W := 0) (rm_bad l Z a0 hw v3 h50 n0 (Nat.le_trans (Nat.le_trans z24 E46.1) Kq50.1) ) (hb hby at_125) (by rw [hml]; rfl) rfl pd11 rfl rfl (by decide) (by decide) (by decide) (by decide) ?_
      intro v54 T54 L54 X54 hQ54
      obtain ⟨rfl, Nq54, hh54⟩ := hQ54
      have N54 := Fr.app N50 Nq54
      refine Go.push (pc' := 128) rfl ?_
      by_cases hc128 : (own_bad v3).toInt = (0 : Int)
      · refine g_ifNo X54 hx hby at_128 (pc' := 131) (teq (show (own_bad v3) = (0 : Int32) from Int32.toInt_inj.mp hc128)).2 rfl ?_
        refine g_iload X54 hx hby at_131 (pc' := 133) rfl rfl ?_
        refine g_iconst X54 hx hby at_133 (pc' := 134) rfl (z := (2 : Int32)) rfl ?_
        have hc134 : ¬ ((2 : Int) < (2 : Int)) := by decide
        refine g_icmpNo X54 hx hby at_134 (pc' := 137) (flt (show ¬ ((2 : Int32) < (2 : Int32)) from fun q => hc134 (Int32.lt_iff_toInt_lt.mp q))).1 rfl ?_
        refine g_iload X54 hx hby at_137 (pc' := 139) rfl rfl ?_
        refine Go.callS X54 hx hZ hown (wi hw 34 rfl) (wi hw 35 rfl) (wi hw 2 rfl) (wi hw 36 rfl) (by decide) hh54 (argsL := [(.int v5)]) (rest := []) (W := 0) (rm_bad l Z a0 hw v5 h50 n0 (Nat.le_trans (Nat.le_trans z24 E46.1) Kq50.1) ) (hb hby at_139) (by rw [hml]; rfl) rfl pd11 rfl rfl (by decide) (by decide) (by decide) (by decide) ?_
        intro v55 T55 L55 X55 hQ55
        obtain ⟨rfl, Nq55, hh55⟩ := hQ55
        have N55 := Fr.app N54 Nq55
        refine Go.push (pc' := 142) rfl ?_
        by_cases hc142 : (own_bad v5).toInt = (0 : Int)
        · refine g_ifNo X55 hx hby at_142 (pc' := 145) (teq (show (own_bad v5) = (0 : Int32) from Int32.toInt_inj.mp hc142)).2 rfl ?_
          refine g_iload X55 hx hby at_145 (pc' := 147) rfl rfl ?_
          refine g_iconst X55 hx hby at_147 (pc' := 148) rfl (z := (3 : Int32)) rfl ?_
          have hc148 : (2 : Int) < (3 : Int) := by decide
          refine g_icmpYes X55 hx hby at_148 (pc' := 163) (tlt (show (2 : Int32) < (3 : Int32) from Int32.lt_iff_toInt_lt.mpr hc148)).1 (by decide) (by decide) ?_
          refine g_iconst X55 hx hby at_163 (pc' := 164) rfl (z := (0 : Int32)) rfl ?_
          refine g_istore X55 hx hby at_164 (pc' := 166) rfl (L' := #[.val (.int p1), .val (.int p2), .val (.int p3), .val (.int p4), .val (.int (2 : Int32)), .val (.int v3), .val (.int v5), .val (.int v7), .val (.ref b8), .val (.ref b12), .val (.ref b18), .val (.ref b46), .val (.int (0 : Int32)), .unset, .unset]) rfl ?_
          refine g_iload X55 hx hby at_166 (pc' := 168) rfl rfl ?_
          refine g_bipush X55 hx hby at_168 (pc' := 170) rfl (z := (32 : Int32)) rfl ?_
          by_cases hc170 : v3.toInt = (32 : Int)
          · refine g_icmpNo X55 hx hby at_170 (pc' := 173) (teq (show v3 = (32 : Int32) from Int32.toInt_inj.mp hc170)).2 rfl ?_
            refine g_iload X55 hx hby at_173 (pc' := 175) rfl rfl ?_
            refine g_iconst X55 hx hby at_175 (pc' := 176) rfl (z := (2 : Int32)) rfl ?_
            have hc176 : ¬ ((2 : Int) < (2 : Int)) := by decide
            refine g_icmpNo X55 hx hby at_176 (pc' := 179) (flt (show ¬ ((2 : Int32) < (2 : Int32)) from fun q => hc176 (Int32.lt_iff_toInt_lt.mp q))).1 rfl ?_
            refine g_iload X55 hx hby at_179 (pc' := 181) rfl rfl ?_
            refine g_bipush X55 hx hby at_181 (pc' := 183) rfl (z := (32 : Int32)) rfl ?_
            by_cases hc183 : v5.toInt = (32 : Int)
            · refine g_icmpNo X55 hx hby at_183 (pc' := 186) (teq (show v5 = (32 : Int32) from Int32.toInt_inj.mp hc183)).2 rfl ?_
              refine g_iload X55 hx hby at_186 (pc' := 188) rfl rfl ?_
              refine g_iconst X55 hx hby at_188 (pc' := 189) rfl (z := (3 : Int32)) rfl ?_
              have hc189 : (2 : Int) < (3 : Int) := by decide
              refine g_icmpYes X55 hx hby at_189 (pc' := 199) (tlt (show (2 : Int32) < (3 : Int32) from Int32.lt_iff_toInt_lt.mpr hc189)).1 (by decide) (by decide) ?_
              refine g_iconst X55 hx hby at_199 (pc' := 200) rfl (z := (1 : Int32)) rfl ?_
              refine g_goto X55 hx hby at_200 (pc' := 204) (by decide) (by decide) ?_
              refine g_istore X55 hx hby at_204 (pc' := 206) rfl (L' := #[.val (.int p1), .val (.int p2), .val (.int p3), .val (.int p4), .val (.int (2 : Int32)), .val (.int v3), .val (.int v5), .val (.int v7), .val (.ref b8), .val (.ref b12), .val (.ref b18), .val (.ref b46), .val (.int (0 : Int32)), .val (.int (1 : Int32)), .unset]) rfl ?_
              refine g_iload X55 hx hby at_206 (pc' := 208) rfl rfl ?_
              have hc208 : (0 : Int) = (0 : Int) := by decide
              refine g_ifNo X55 hx hby at_208 (pc' := 211) (teq (show (0 : Int32) = (0 : Int32) from Int32.toInt_inj.mp hc208)).2 rfl ?_
              refine g_iload X55 hx hby at_211 (pc' := 213) rfl rfl ?_
              have hc213 : ¬ ((1 : Int) = (0 : Int)) := by decide
              refine g_ifNo X55 hx hby at_213 (pc' := 216) (feq (show ¬ ((1 : Int32) = (0 : Int32)) from fun q => hc213 (congrArg Int32.toInt q))).1 rfl ?_
              refine g_iconst X55 hx hby at_216 (pc' := 217) rfl (z := (1 : Int32)) rfl ?_
              refine Go.retZ X55 hx hlk hret (by simp) (hb hby at_217) (by decide) (by decide) ?_
              exact ⟨rfl, N55⟩
            · refine g_icmpYes X55 hx hby at_183 (pc' := 203) (feq (show ¬ (v5 = (32 : Int32)) from fun q => hc183 (congrArg Int32.toInt q))).2 (by decide) (by decide) ?_
              refine g_iconst X55 hx hby at_203 (pc' := 204) rfl (z := (0 : Int32)) rfl ?_
              refine g_istore X55 hx hby at_204 (pc' := 206) rfl (L' := #[.val (.int p1), .val (.int p2), .val (.int p3), .val (.int p4), .val (.int (2 : Int32)), .val (.int v3), .val (.int v5), .val (.int v7), .val (.ref b8), .val (.ref b12), .val (.ref b18), .val (.ref b46), .val (.int (0 : Int32)), .val (.int (0 : Int32)), .unset]) rfl ?_
              refine g_iload X55 hx hby at_206 (pc' := 208) rfl rfl ?_
              have hc208 : (0 : Int) = (0 : Int) := by decide
              refine g_ifNo X55 hx hby at_208 (pc' := 211) (teq (show (0 : Int32) = (0 : Int32) from Int32.toInt_inj.mp hc208)).2 rfl ?_
              refine g_iload X55 hx hby at_211 (pc' := 213) rfl rfl ?_
              have hc213 : (0 : Int) = (0 : Int) := by decide
              refine g_ifYes X55 hx hby at_213 (pc' := 218) (teq (show (0 : Int32) = (0 : Int32) from Int32.toInt_inj.mp hc213)).1 (by decide) (by decide) ?_
              refine g_aload X55 hx hby at_218 (pc' := 220) rfl rfl rfl ?_
              have q0 := own_bad0 hc128
              have q1 := own_bad0 hc142
              have f57 := A46.keep Kq50
              have f58 := (f51.keep Kq50 (allS g47 all0))
              refine Go.callS X55 hx hZ hown (wi hw 37 rfl) (wi hw 38 rfl) (wi hw 39 rfl) (wi hw 40 rfl) (by decide) hh55 (argsL := [(.ref b46)]) (rest := []) (W := 0) (rm_chk l Z a0 hw b46 b1_50 2 (own_l [v3, v5]) 1 G1 G3 h50 n0 (Nat.le_trans (Nat.le_trans z24 E46.1) Kq50.1) f57 Fq0_50 Fq1_50 Fq2_50 f58 (by decide) (by show ¬ v5.toInt = 32 ∧ ¬ v5.toInt = 9; omega) (own_rg2 (P := fun z => ¬ z.toInt = 9) q0.1 q1.1) (own_rg2 (P := fun z => ¬ z.toInt = 10) q0.2.1 q1.2.1) (own_rg2 (P := fun z => ¬ z.toInt = 13) q0.2.2 q1.2.2) (by omega) (by omega) hgc O2 hG1 O4 rG3) (hb hby at_220) (by rw [hml]; rfl) rfl pd18 rfl rfl (by decide) (by decide) (by decide) (by decide) ?_
              intro v56 T56 L56 X56 hQ56
              obtain ⟨rfl, Nq56, hh56⟩ := hQ56
              have N56 := Fr.app N55 Nq56
              refine Go.push (pc' := 223) rfl ?_
              refine g_astore X56 hx hby at_223 (pc' := 225) rfl rfl (L' := #[.val (.int p1), .val (.int p2), .val (.int p3), .val (.int p4), .val (.int (2 : Int32)), .val (.int v3), .val (.int v5), .val (.int v7), .val (.ref b8), .val (.ref b12), .val (.ref b18), .val (.ref b46), .val (.int (0 : Int32)), .val (.int (0 : Int32)), .val (.ref b46)]) rfl ?_
              refine g_aload X56 hx hby at_225 (pc' := 227) rfl rfl rfl ?_
              refine g_aload X56 hx hby at_227 (pc' := 229) rfl rfl rfl ?_
              refine Go.callV X56 hx hZ hown (wi hw 106 rfl) (wi hw 107 rfl) (notFace_of_selects (args := #[]) (mvT hZ (wi hw 109 rfl))) (wi hw 109 rfl) (wi hw 108 rfl) (wi hw 7 rfl) (wi hw 110 rfl) (by decide) hh56 (a := b46) (argsL := [(.ref b46)]) (rest := []) (W := 0) f57 (rm_eq l Z a0 hw b46 b46 h50 n0 (Nat.le_trans (Nat.le_trans z24 E46.1) Kq50.1) rfl) (hb hby at_229) (by rw [hml]; rfl) rfl pd19 rfl rfl (by decide) (by decide) (by decide) (by decide) ?_
              intro v59 T59 L59 X59 hQ59
              obtain ⟨rfl, Nq59, hh59⟩ := hQ59
              have N59 := Fr.app N56 Nq59
              refine Go.push (pc' := 232) rfl ?_
              refine Go.retZ X59 hx hlk hret (by simp) (hb hby at_232) (by decide) (by decide) ?_
              exact ⟨rfl, N59⟩
          · refine g_icmpYes X55 hx hby at_170 (pc' := 203) (feq (show ¬ (v3 = (32 : Int32)) from fun q => hc170 (congrArg Int32.toInt q))).2 (by decide) (by decide) ?_
            refine g_iconst X55 hx hby at_203 (pc' := 204) rfl (z := (0 : Int32)) rfl ?_
            refine g_istore X55 hx hby at_204 (pc' := 206) rfl (L' := #[.val (.int p1), .val (.int p2), .val (.int p3), .val (.int p4), .val (.int (2 : Int32)), .val (.int v3), .val (.int v5), .val (.int v7), .val (.ref b8), .val (.ref b12), .val (.ref b18), .val (.ref b46), .val (.int (0 : Int32)), .val (.int (0 : Int32)), .unset]) rfl ?_
            refine g_iload X55 hx hby at_206 (pc' := 208) rfl rfl ?_
            have hc208 : (0 : Int) = (0 : Int) := by decide
            refine g_ifNo X55 hx hby at_208 (pc' := 211) (teq (show (0 : Int32) = (0 : Int32) from Int32.toInt_inj.mp hc208)).2 rfl ?_
            refine g_iload X55 hx hby at_211 (pc' := 213) rfl rfl ?_
            have hc213 : (0 : Int) = (0 : Int) := by decide
            refine g_ifYes X55 hx hby at_213 (pc' := 218) (teq (show (0 : Int32) = (0 : Int32) from Int32.toInt_inj.mp hc213)).1 (by decide) (by decide) ?_
            refine g_aload X55 hx hby at_218 (pc' := 220) rfl rfl rfl ?_
            have q0 := own_bad0 hc128
            have q1 := own_bad0 hc142
            have f61 := A46.keep Kq50
            have f62 := (f51.keep Kq50 (allS g47 all0))
            refine Go.callS X55 hx hZ hown (wi hw 37 rfl) (wi hw 38 rfl) (wi hw 39 rfl) (wi hw 40 rfl) (by decide) hh55 (argsL := [(.ref b46)]) (rest := []) (W := 0) (rm_chk l Z a0 hw b46 b1_50 2 (own_l [v3, v5]) 0 G1 G3 h50 n0 (Nat.le_trans (Nat.le_trans z24 E46.1) Kq50.1) f61 Fq0_50 Fq1_50 Fq2_50 f62 (by decide) (by show ¬ v3.toInt = 32 ∧ ¬ v3.toInt = 9; omega) (own_rg2 (P := fun z => ¬ z.toInt = 9) q0.1 q1.1) (own_rg2 (P := fun z => ¬ z.toInt = 10) q0.2.1 q1.2.1) (own_rg2 (P := fun z => ¬ z.toInt = 13) q0.2.2 q1.2.2) (by omega) (by omega) hgc O2 hG1 O4 rG3) (hb hby at_220) (by rw [hml]; rfl) rfl pd18 rfl rfl (by decide) (by decide) (by decide) (by decide) ?_
            intro v60 T60 L60 X60 hQ60
            obtain ⟨rfl, Nq60, hh60⟩ := hQ60
            have N60 := Fr.app N55 Nq60
            refine Go.push (pc' := 223) rfl ?_
            refine g_astore X60 hx hby at_223 (pc' := 225) rfl rfl (L' := #[.val (.int p1), .val (.int p2), .val (.int p3), .val (.int p4), .val (.int (2 : Int32)), .val (.int v3), .val (.int v5), .val (.int v7), .val (.ref b8), .val (.ref b12), .val (.ref b18), .val (.ref b46), .val (.int (0 : Int32)), .val (.int (0 : Int32)), .val (.ref b46)]) rfl ?_
            refine g_aload X60 hx hby at_225 (pc' := 227) rfl rfl rfl ?_
            refine g_aload X60 hx hby at_227 (pc' := 229) rfl rfl rfl ?_
            refine Go.callV X60 hx hZ hown (wi hw 106 rfl) (wi hw 107 rfl) (notFace_of_selects (args := #[]) (mvT hZ (wi hw 109 rfl))) (wi hw 109 rfl) (wi hw 108 rfl) (wi hw 7 rfl) (wi hw 110 rfl) (by decide) hh60 (a := b46) (argsL := [(.ref b46)]) (rest := []) (W := 0) f61 (rm_eq l Z a0 hw b46 b46 h50 n0 (Nat.le_trans (Nat.le_trans z24 E46.1) Kq50.1) rfl) (hb hby at_229) (by rw [hml]; rfl) rfl pd19 rfl rfl (by decide) (by decide) (by decide) (by decide) ?_
            intro v63 T63 L63 X63 hQ63
            obtain ⟨rfl, Nq63, hh63⟩ := hQ63
            have N63 := Fr.app N60 Nq63
            refine Go.push (pc' := 232) rfl ?_
            refine Go.retZ X63 hx hlk hret (by simp) (hb hby at_232) (by decide) (by decide) ?_
            exact ⟨rfl, N63⟩
        · refine g_ifYes X55 hx hby at_142 (pc' := 159) (feq (show ¬ ((own_bad v5) = (0 : Int32)) from fun q => hc142 (congrArg Int32.toInt q))).2 (by decide) (by decide) ?_
          refine g_iconst X55 hx hby at_159 (pc' := 160) rfl (z := (1 : Int32)) rfl ?_
          refine g_goto X55 hx hby at_160 (pc' := 164) (by decide) (by decide) ?_
          refine g_istore X55 hx hby at_164 (pc' := 166) rfl (L' := #[.val (.int p1), .val (.int p2), .val (.int p3), .val (.int p4), .val (.int (2 : Int32)), .val (.int v3), .val (.int v5), .val (.int v7), .val (.ref b8), .val (.ref b12), .val (.ref b18), .val (.ref b46), .val (.int (1 : Int32)), .unset, .unset]) rfl ?_
          refine g_iload X55 hx hby at_166 (pc' := 168) rfl rfl ?_
          refine g_bipush X55 hx hby at_168 (pc' := 170) rfl (z := (32 : Int32)) rfl ?_
          by_cases hc170 : v3.toInt = (32 : Int)
          · refine g_icmpNo X55 hx hby at_170 (pc' := 173) (teq (show v3 = (32 : Int32) from Int32.toInt_inj.mp hc170)).2 rfl ?_
            refine g_iload X55 hx hby at_173 (pc' := 175) rfl rfl ?_
            refine g_iconst X55 hx hby at_175 (pc' := 176) rfl (z := (2 : Int32)) rfl ?_
            have hc176 : ¬ ((2 : Int) < (2 : Int)) := by decide
            refine g_icmpNo X55 hx hby at_176 (pc' := 179) (flt (show ¬ ((2 : Int32) < (2 : Int32)) from fun q => hc176 (Int32.lt_iff_toInt_lt.mp q))).1 rfl ?_
            refine g_iload X55 hx hby at_179 (pc' := 181) rfl rfl ?_
            refine g_bipush X55 hx hby at_181 (pc' := 183) rfl (z := (32 : Int32)) rfl ?_
            by_cases hc183 : v5.toInt = (32 : Int)
            · refine g_icmpNo X55 hx hby at_183 (pc' := 186) (teq (show v5 = (32 : Int32) from Int32.toInt_inj.mp hc183)).2 rfl ?_
              refine g_iload X55 hx hby at_186 (pc' := 188) rfl rfl ?_
              refine g_iconst X55 hx hby at_188 (pc' := 189) rfl (z := (3 : Int32)) rfl ?_
              have hc189 : (2 : Int) < (3 : Int) := by decide
              refine g_icmpYes X55 hx hby at_189 (pc' := 199) (tlt (show (2 : Int32) < (3 : Int32) from Int32.lt_iff_toInt_lt.mpr hc189)).1 (by decide) (by decide) ?_
              refine g_iconst X55 hx hby at_199 (pc' := 200) rfl (z := (1 : Int32)) rfl ?_
              refine g_goto X55 hx hby at_200 (pc' := 204) (by decide) (by decide) ?_
              refine g_istore X55 hx hby at_204 (pc' := 206) rfl (L' := #[.val (.int p1), .val (.int p2), .val (.int p3), .val (.int p4), .val (.int (2 : Int32)), .val (.int v3), .val (.int v5), .val (.int v7), .val (.ref b8), .val (.ref b12), .val (.ref b18), .val (.ref b46), .val (.int (1 : Int32)), .val (.int (1 : Int32)), .unset]) rfl ?_
              refine g_iload X55 hx hby at_206 (pc' := 208) rfl rfl ?_
              have hc208 : ¬ ((1 : Int) = (0 : Int)) := by decide
              refine g_ifYes X55 hx hby at_208 (pc' := 216) (feq (show ¬ ((1 : Int32) = (0 : Int32)) from fun q => hc208 (congrArg Int32.toInt q))).2 (by decide) (by decide) ?_
              refine g_iconst X55 hx hby at_216 (pc' := 217) rfl (z := (1 : Int32)) rfl ?_
              refine Go.retZ X55 hx hlk hret (by simp) (hb hby at_217) (by decide) (by decide) ?_
              exact ⟨rfl, N55⟩
            · refine g_icmpYes X55 hx hby at_183 (pc' := 203) (feq (show ¬ (v5 = (32 : Int32)) from fun q => hc183 (congrArg Int32.toInt q))).2 (by decide) (by decide) ?_
              refine g_iconst X55 hx hby at_203 (pc' := 204) rfl (z := (0 : Int32)) rfl ?_
              refine g_istore X55 hx hby at_204 (pc' := 206) rfl (L' := #[.val (.int p1), .val (.int p2), .val (.int p3), .val (.int p4), .val (.int (2 : Int32)), .val (.int v3), .val (.int v5), .val (.int v7), .val (.ref b8), .val (.ref b12), .val (.ref b18), .val (.ref b46), .val (.int (1 : Int32)), .val (.int (0 : Int32)), .unset]) rfl ?_
              refine g_iload X55 hx hby at_206 (pc' := 208) rfl rfl ?_
              have hc208 : ¬ ((1 : Int) = (0 : Int)) := by decide
              refine g_ifYes X55 hx hby at_208 (pc' := 216) (feq (show ¬ ((1 : Int32) = (0 : Int32)) from fun q => hc208 (congrArg Int32.toInt q))).2 (by decide) (by decide) ?_
              refine g_iconst X55 hx hby at_216 (pc' := 217) rfl (z := (1 : Int32)) rfl ?_
              refine Go.retZ X55 hx hlk hret (by simp) (hb hby at_217) (by decide) (by decide) ?_
              exact ⟨rfl, N55⟩
          · refine g_icmpYes X55 hx hby at_170 (pc' := 203) (feq (show ¬ (v3 = (32 : Int32)) from fun q => hc170 (congrArg Int32.toInt q))).2 (by decide) (by decide) ?_
            refine g_iconst X55 hx hby at_203 (pc' := 204) rfl (z := (0 : Int32)) rfl ?_
            refine g_istore X55 hx hby at_204 (pc' := 206) rfl (L' := #[.val (.int p1), .val (.int p2), .val (.int p3), .val (.int p4), .val (.int (2 : Int32)), .val (.int v3), .val (.int v5), .val (.int v7), .val (.ref b8), .val (.ref b12), .val (.ref b18), .val (.ref b46), .val (.int (1 : Int32)), .val (.int (0 : Int32)), .unset]) rfl ?_
            refine g_iload X55 hx hby at_206 (pc' := 208) rfl rfl ?_
            have hc208 : ¬ ((1 : Int) = (0 : Int)) := by decide
            refine g_ifYes X55 hx hby at_208 (pc' := 216) (feq (show ¬ ((1 : Int32) = (0 : Int32)) from fun q => hc208 (congrArg Int32.toInt q))).2 (by decide) (by decide) ?_
            refine g_iconst X55 hx hby at_216 (pc' := 217) rfl (z := (1 : Int32)) rfl ?_
            refine Go.retZ X55 hx hlk hret (by simp) (hb hby at_217) (by decide) (by decide) ?_
            exact ⟨rfl, N55⟩
      · refine g_ifYes X54 hx hby at_128 (pc' := 159) (feq (show ¬ ((own_bad v3) = (0 : Int32)) from fun q => hc128 (congrArg Int32.toInt q))).2 (by decide) (by decide) ?_
        refine g_iconst X54 hx hby at_159 (pc' := 160) rfl (z := (1 : Int32)) rfl ?_
        refine g_goto X54 hx hby at_160 (pc' := 164) (by decide) (by decide) ?_
        refine g_istore X54 hx hby at_164 (pc' := 166) rfl (L' := #[.val (.int p1), .val (.int p2), .val (.int p3), .val (.int p4), .val (.int (2 : Int32)), .val (.int v3), .val (.int v5), .val (.int v7), .val (.ref b8), .val (.ref b12), .val (.ref b18), .val (.ref b46), .val (.int (1 : Int32)), .unset, .unset]) rfl ?_
        refine g_iload X54 hx hby at_166 (pc' := 168) rfl rfl ?_
        refine g_bipush X54 hx hby at_168 (pc' := 170) rfl (z := (32 : Int32)) rfl ?_
        by_cases hc170 : v3.toInt = (32 : Int)
        · refine g_icmpNo X54 hx hby at_170 (pc' := 173) (teq (show v3 = (32 : Int32) from Int32.toInt_inj.mp hc170)).2 rfl ?_
          refine g_iload X54 hx hby at_173 (pc' := 175) rfl rfl ?_
          refine g_iconst X54 hx hby at_175 (pc' := 176) rfl (z := (2 : Int32)) rfl ?_
          have hc176 : ¬ ((2 : Int) < (2 : Int)) := by decide
          refine g_icmpNo X54 hx hby at_176 (pc' := 179) (flt (show ¬ ((2 : Int32) < (2 : Int32)) from fun q => hc176 (Int32.lt_iff_toInt_lt.mp q))).1 rfl ?_
          refine g_iload X54 hx hby at_179 (pc' := 181) rfl rfl ?_
          refine g_bipush X54 hx hby at_181 (pc' := 183) rfl (z := (32 : Int32)) rfl ?_
          by_cases hc183 : v5.toInt = (32 : Int)
          · refine g_icmpNo X54 hx hby at_183 (pc' := 186) (teq (show v5 = (32 : Int32) from Int32.toInt_inj.mp hc183)).2 rfl ?_
            refine g_iload X54 hx hby at_186 (pc' := 188) rfl rfl ?_
            refine g_iconst X54 hx hby at_188 (pc' := 189) rfl (z := (3 : Int32)) rfl ?_
            have hc189 : (2 : Int) < (3 : Int) := by decide
            refine g_icmpYes X54 hx hby at_189 (pc' := 199) (tlt (show (2 : Int32) < (3 : Int32) from Int32.lt_iff_toInt_lt.mpr hc189)).1 (by decide) (by decide) ?_
            refine g_iconst X54 hx hby at_199 (pc' := 200) rfl (z := (1 : Int32)) rfl ?_
            refine g_goto X54 hx hby at_200 (pc' := 204) (by decide) (by decide) ?_
            refine g_istore X54 hx hby at_204 (pc' := 206) rfl (L' := #[.val (.int p1), .val (.int p2), .val (.int p3), .val (.int p4), .val (.int (2 : Int32)), .val (.int v3), .val (.int v5), .val (.int v7), .val (.ref b8), .val (.ref b12), .val (.ref b18), .val (.ref b46), .val (.int (1 : Int32)), .val (.int (1 : Int32)), .unset]) rfl ?_
            refine g_iload X54 hx hby at_206 (pc' := 208) rfl rfl ?_
            have hc208 : ¬ ((1 : Int) = (0 : Int)) := by decide
            refine g_ifYes X54 hx hby at_208 (pc' := 216) (feq (show ¬ ((1 : Int32) = (0 : Int32)) from fun q => hc208 (congrArg Int32.toInt q))).2 (by decide) (by decide) ?_
            refine g_iconst X54 hx hby at_216 (pc' := 217) rfl (z := (1 : Int32)) rfl ?_
            refine Go.retZ X54 hx hlk hret (by simp) (hb hby at_217) (by decide) (by decide) ?_
            exact ⟨rfl, N54⟩
          · refine g_icmpYes X54 hx hby at_183 (pc' := 203) (feq (show ¬ (v5 = (32 : Int32)) from fun q => hc183 (congrArg Int32.toInt q))).2 (by decide) (by decide) ?_
            refine g_iconst X54 hx hby at_203 (pc' := 204) rfl (z := (0 : Int32)) rfl ?_
            refine g_istore X54 hx hby at_204 (pc' := 206) rfl (L' := #[.val (.int p1), .val (.int p2), .val (.int p3), .val (.int p4), .val (.int (2 : Int32)), .val (.int v3), .val (.int v5), .val (.int v7), .val (.ref b8), .val (.ref b12), .val (.ref b18), .val (.ref b46), .val (.int (1 : Int32)), .val (.int (0 : Int32)), .unset]) rfl ?_
            refine g_iload X54 hx hby at_206 (pc' := 208) rfl rfl ?_
            have hc208 : ¬ ((1 : Int) = (0 : Int)) := by decide
            refine g_ifYes X54 hx hby at_208 (pc' := 216) (feq (show ¬ ((1 : Int32) = (0 : Int32)) from fun q => hc208 (congrArg Int32.toInt q))).2 (by decide) (by decide) ?_
            refine g_iconst X54 hx hby at_216 (pc' := 217) rfl (z := (1 : Int32)) rfl ?_
            refine Go.retZ X54 hx hlk hret (by simp) (hb hby at_217) (by decide) (by decide) ?_
            exact ⟨rfl, N54⟩
        · refine g_icmpYes X54 hx hby at_170 (pc' := 203) (feq (show ¬ (v3 = (32 : Int32)) from fun q => hc170 (congrArg Int32.toInt q))).2 (by decide) (by decide) ?_
          refine g_iconst X54 hx hby at_203 (pc' := 204) rfl (z := (0 : Int32)) rfl ?_
          refine g_istore X54 hx hby at_204 (pc' := 206) rfl (L' := #[.val (.int p1), .val (.int p2), .val (.int p3), .val (.int p4), .val (.int (2 : Int32)), .val (.int v3), .val (.int v5), .val (.int v7), .val (.ref b8), .val (.ref b12), .val (.ref b18), .val (.ref b46), .val (.int (1 : Int32)), .val (.int (0 : Int32)), .unset]) rfl ?_
          refine g_iload X54 hx hby at_206 (pc' := 208) rfl rfl ?_
          have hc208 : ¬ ((1 : Int) = (0 : Int)) := by decide
          refine g_ifYes X54 hx hby at_208 (pc' := 216) (feq (show ¬ ((1 : Int32) = (0 : Int32)) from fun q => hc208 (congrArg Int32.toInt q))).2 (by decide) (by decide) ?_
          refine g_iconst X54 hx hby at_216 (pc' := 217) rfl (z := (1 : Int32)) rfl ?_
          refine Go.retZ X54 hx hlk hret (by simp) (hb hby at_217) (by decide) (by decide) ?_
          exact ⟨rfl, N54⟩
    · show Go p.tables e below s _ _ _ (T23.setTop (mkF m 76 #[.val (.int p1), .val (.int p2), .val (.int p3), .val (.int p4), .val (.int (3 : Int32)), .val (.int v3), .val (.int v5), .val (.int v7), .val (.ref b8), .val (.ref b12), .val (.ref b18), .unset, .unset, .unset, .unset] []))
      have hgc := own_rg3 (P := fun z => 0 ≤ z.toInt ∧ z.toInt ≤ 255) r5 r6 r7
      refine g_iload X23 hx hby at_76 (pc' := 78) rfl rfl ?_
      refine g_iconst X23 hx hby at_78 (pc' := 79) rfl (z := (1 : Int32)) rfl ?_
      have hc79 : ¬ ((3 : Int) = (1 : Int)) := by decide
      refine g_icmpYes X23 hx hby at_79 (pc' := 94) (feq (show ¬ ((3 : Int32) = (1 : Int32)) from fun q => hc79 (congrArg Int32.toInt q))).2 (by decide) (by decide) ?_
      refine g_iload X23 hx hby at_94 (pc' := 96) rfl rfl ?_
      refine g_iconst X23 hx hby at_96 (pc' := 97) rfl (z := (2 : Int32)) rfl ?_
      have hc97 : ¬ ((3 : Int) = (2 : Int)) := by decide
      refine g_icmpYes X23 hx hby at_97 (pc' := 112) (feq (show ¬ ((3 : Int32) = (2 : Int32)) from fun q => hc97 (congrArg Int32.toInt q))).2 (by decide) (by decide) ?_
      refine g_new X23 hx hby hZ hown (wi hw 5 rfl) (wi hw 6 rfl) (wi hw 7 rfl) e23 at_112 (pc' := 115) rfl (by decide) (by decide) ?_
      intro T64 h64 b64 X64 e64 E64 hb64 A64 D64
      have g65 : n0 ≤ b64 := by rw [hb64]; exact z24
      have F66 : Fld Z h64 b64 "java/lang/String" "coder" "B" (.int (0 : Int32)) := D64 (Or.inr (wi hw 31 rfl)) (ty := .byte) (by decide)
      have F67 : Fld Z h64 b64 "java/lang/String" "value" "[B" .null := D64 (Or.inr (wi hw 33 rfl)) (ty := (.array .byte)) (by decide)
      refine g_dup X64 hx hby at_115 (pc' := 116) rfl rfl ?_
      refine g_aload X64 hx hby at_116 (pc' := 118) rfl rfl rfl ?_
      have f69 := ((((((((((X00.ext E8).wr W11 g9).ext E12).wr W15 g13).wr W16 g13).ext E18).wr W21 g19).wr W22 g19).wr W23 g19).ext E64)
      have f70 := V32.ext E64
      have ne71 : b18 ≠ b64 := Nat.ne_of_lt (by rw [hb64]; exact V32.lt)
      refine Go.callI X64 hx hZ hown rfl (wi hw 8 rfl) (wi hw 9 rfl) (wi hw 7 rfl) (wi hw 10 rfl) (by decide) e64 (a := b64) (argsL := [(.ref b18)]) (rest := [(.ref b64)]) (W := 1) (rm_in1 l Z a0 hw b64 b18 3 (own_l [v3, v5, v7]) G1 h64 n0 (Nat.le_trans z24 E64.1) A64 F67 F66 f69 f70 ne71 g65 (by omega) (by omega) hgc O2 hG1) (hb hby at_118) (by rw [hml]; rfl) rfl pd17 rfl rfl (by decide) (by decide) (by decide) (by decide) ?_
      intro v68 T68 L68 X68 hQ68
      obtain ⟨h68, e68⟩ : ∃ z, T68.heap = z := ⟨_, rfl⟩
      rw [e68] at hQ68
      obtain ⟨b1_68, rfl, Nq68, Kq68, gqb1_68, sqb1_68, Fq0_68, Fq1_68, Fq2_68⟩ := hQ68
      have N68 := Fr.app (Fr.snoc X23 (Fr.snoc X22 (Fr.snoc X21 (Fr.snoc X16 (Fr.snoc X15 (Fr.snoc X11 N6 g9) g13) g13) g19) g19) g19) Nq68
      refine Go.void (pc' := 121) rfl ?_
      refine g_astore X68 hx hby at_121 (pc' := 123) rfl rfl (L' := #[.val (.int p1), .val (.int p2), .val (.int p3), .val (.int p4), .val (.int (3 : Int32)), .val (.int v3), .val (.int v5), .val (.int v7), .val (.ref b8), .val (.ref b12), .val (.ref b18), .val (.ref b64), .unset, .unset, .unset]) rfl ?_
      refine g_iload X68 hx hby at_123 (pc' := 125) rfl rfl ?_
      refine Go.callS X68 hx hZ hown (wi hw 34 rfl) (wi hw 35 rfl) (wi hw 2 rfl) (wi hw 36 rfl) (by decide) e68 (argsL := [(.int v3)]) (rest := []) (W := 0) (rm_bad l Z a0 hw v3 h68 n0 (Nat.le_trans (Nat.le_trans z24 E64.1) Kq68.1) ) (hb hby at_125) (by rw [hml]; rfl) rfl pd11 rfl rfl (by decide) (by decide) (by decide) (by decide) ?_
      intro v72 T72 L72 X72 hQ72
      obtain ⟨rfl, Nq72, hh72⟩ := hQ72
      have N72 := Fr.app N68 Nq72
      refine Go.push (pc' := 128) rfl ?_
      by_cases hc128 : (own_bad v3).toInt = (0 : Int)
      · refine g_ifNo X72 hx hby at_128 (pc' := 131) (teq (show (own_bad v3) = (0 : Int32) from Int32.toInt_inj.mp hc128)).2 rfl ?_
        refine g_iload X72 hx hby at_131 (pc' := 133) rfl rfl ?_
        refine g_iconst X72 hx hby at_133 (pc' := 134) rfl (z := (2 : Int32)) rfl ?_
        have hc134 : ¬ ((3 : Int) < (2 : Int)) := by decide
        refine g_icmpNo X72 hx hby at_134 (pc' := 137) (flt (show ¬ ((3 : Int32) < (2 : Int32)) from fun q => hc134 (Int32.lt_iff_toInt_lt.mp q))).1 rfl ?_
        refine g_iload X72 hx hby at_137 (pc' := 139) rfl rfl ?_
        refine Go.callS X72 hx hZ hown (wi hw 34 rfl) (wi hw 35 rfl) (wi hw 2 rfl) (wi hw 36 rfl) (by decide) hh72 (argsL := [(.int v5)]) (rest := []) (W := 0) (rm_bad l Z a0 hw v5 h68 n0 (Nat.le_trans (Nat.le_trans z24 E64.1) Kq68.1) ) (hb hby at_139) (by rw [hml]; rfl) rfl pd11 rfl rfl (by decide) (by decide) (by decide) (by decide) ?_
        intro v73 T73 L73 X73 hQ73
        obtain ⟨rfl, Nq73, hh73⟩ := hQ73
        have N73 := Fr.app N72 Nq73
        refine Go.push (pc' := 142) rfl ?_
        by_cases hc142 : (own_bad v5).toInt = (0 : Int)
        · refine g_ifNo X73 hx hby at_142 (pc' := 145) (teq (show (own_bad v5) = (0 : Int32) from Int32.toInt_inj.mp hc142)).2 rfl ?_
          refine g_iload X73 hx hby at_145 (pc' := 147) rfl rfl ?_
          refine g_iconst X73 hx hby at_147 (pc' := 148) rfl (z := (3 : Int32)) rfl ?_
          have hc148 : ¬ ((3 : Int) < (3 : Int)) := by decide
          refine g_icmpNo X73 hx hby at_148 (pc' := 151) (flt (show ¬ ((3 : Int32) < (3 : Int32)) from fun q => hc148 (Int32.lt_iff_toInt_lt.mp q))).1 rfl ?_
          refine g_iload X73 hx hby at_151 (pc' := 153) rfl rfl ?_
          refine Go.callS X73 hx hZ hown (wi hw 34 rfl) (wi hw 35 rfl) (wi hw 2 rfl) (wi hw 36 rfl) (by decide) hh73 (argsL := [(.int v7)]) (rest := []) (W := 0) (rm_bad l Z a0 hw v7 h68 n0 (Nat.le_trans (Nat.le_trans z24 E64.1) Kq68.1) ) (hb hby at_153) (by rw [hml]; rfl) rfl pd11 rfl rfl (by decide) (by decide) (by decide) (by decide) ?_
          intro v74 T74 L74 X74 hQ74
          obtain ⟨rfl, Nq74, hh74⟩ := hQ74
          have N74 := Fr.app N73 Nq74
          refine Go.push (pc' := 156) rfl ?_
          by_cases hc156 : (own_bad v7).toInt = (0 : Int)
          · refine g_ifYes X74 hx hby at_156 (pc' := 163) (teq (show (own_bad v7) = (0 : Int32) from Int32.toInt_inj.mp hc156)).1 (by decide) (by decide) ?_
            refine g_iconst X74 hx hby at_163 (pc' := 164) rfl (z := (0 : Int32)) rfl ?_
            refine g_istore X74 hx hby at_164 (pc' := 166) rfl (L' := #[.val (.int p1), .val (.int p2), .val (.int p3), .val (.int p4), .val (.int (3 : Int32)), .val (.int v3), .val (.int v5), .val (.int v7), .val (.ref b8), .val (.ref b12), .val (.ref b18), .val (.ref b64), .val (.int (0 : Int32)), .unset, .unset]) rfl ?_
            refine g_iload X74 hx hby at_166 (pc' := 168) rfl rfl ?_
            refine g_bipush X74 hx hby at_168 (pc' := 170) rfl (z := (32 : Int32)) rfl ?_
            by_cases hc170 : v3.toInt = (32 : Int)
            · refine g_icmpNo X74 hx hby at_170 (pc' := 173) (teq (show v3 = (32 : Int32) from Int32.toInt_inj.mp hc170)).2 rfl ?_
              refine g_iload X74 hx hby at_173 (pc' := 175) rfl rfl ?_
              refine g_iconst X74 hx hby at_175 (pc' := 176) rfl (z := (2 : Int32)) rfl ?_
              have hc176 : ¬ ((3 : Int) < (2 : Int)) := by decide
              refine g_icmpNo X74 hx hby at_176 (pc' := 179) (flt (show ¬ ((3 : Int32) < (2 : Int32)) from fun q => hc176 (Int32.lt_iff_toInt_lt.mp q))).1 rfl ?_
              refine g_iload X74 hx hby at_179 (pc' := 181) rfl rfl ?_
              refine g_bipush X74 hx hby at_181 (pc' := 183) rfl (z := (32 : Int32)) rfl ?_
              by_cases hc183 : v5.toInt = (32 : Int)
              · refine g_icmpNo X74 hx hby at_183 (pc' := 186) (teq (show v5 = (32 : Int32) from Int32.toInt_inj.mp hc183)).2 rfl ?_
                refine g_iload X74 hx hby at_186 (pc' := 188) rfl rfl ?_
                refine g_iconst X74 hx hby at_188 (pc' := 189) rfl (z := (3 : Int32)) rfl ?_
                have hc189 : ¬ ((3 : Int) < (3 : Int)) := by decide
                refine g_icmpNo X74 hx hby at_189 (pc' := 192) (flt (show ¬ ((3 : Int32) < (3 : Int32)) from fun q => hc189 (Int32.lt_iff_toInt_lt.mp q))).1 rfl ?_
                refine g_iload X74 hx hby at_192 (pc' := 194) rfl rfl ?_
                refine g_bipush X74 hx hby at_194 (pc' := 196) rfl (z := (32 : Int32)) rfl ?_
                by_cases hc196 : v7.toInt = (32 : Int)
                · refine g_icmpNo X74 hx hby at_196 (pc' := 199) (teq (show v7 = (32 : Int32) from Int32.toInt_inj.mp hc196)).2 rfl ?_
                  refine g_iconst X74 hx hby at_199 (pc' := 200) rfl (z := (1 : Int32)) rfl ?_
                  refine g_goto X74 hx hby at_200 (pc' := 204) (by decide) (by decide) ?_
                  refine g_istore X74 hx hby at_204 (pc' := 206) rfl (L' := #[.val (.int p1), .val (.int p2), .val (.int p3), .val (.int p4), .val (.int (3 : Int32)), .val (.int v3), .val (.int v5), .val (.int v7), .val (.ref b8), .val (.ref b12), .val (.ref b18), .val (.ref b64), .val (.int (0 : Int32)), .val (.int (1 : Int32)), .unset]) rfl ?_
                  refine g_iload X74 hx hby at_206 (pc' := 208) rfl rfl ?_
                  have hc208 : (0 : Int) = (0 : Int) := by decide
                  refine g_ifNo X74 hx hby at_208 (pc' := 211) (teq (show (0 : Int32) = (0 : Int32) from Int32.toInt_inj.mp hc208)).2 rfl ?_
                  refine g_iload X74 hx hby at_211 (pc' := 213) rfl rfl ?_
                  have hc213 : ¬ ((1 : Int) = (0 : Int)) := by decide
                  refine g_ifNo X74 hx hby at_213 (pc' := 216) (feq (show ¬ ((1 : Int32) = (0 : Int32)) from fun q => hc213 (congrArg Int32.toInt q))).1 rfl ?_
                  refine g_iconst X74 hx hby at_216 (pc' := 217) rfl (z := (1 : Int32)) rfl ?_
                  refine Go.retZ X74 hx hlk hret (by simp) (hb hby at_217) (by decide) (by decide) ?_
                  exact ⟨rfl, N74⟩
                · refine g_icmpYes X74 hx hby at_196 (pc' := 203) (feq (show ¬ (v7 = (32 : Int32)) from fun q => hc196 (congrArg Int32.toInt q))).2 (by decide) (by decide) ?_
                  refine g_iconst X74 hx hby at_203 (pc' := 204) rfl (z := (0 : Int32)) rfl ?_
                  refine g_istore X74 hx hby at_204 (pc' := 206) rfl (L' := #[.val (.int p1), .val (.int p2), .val (.int p3), .val (.int p4), .val (.int (3 : Int32)), .val (.int v3), .val (.int v5), .val (.int v7), .val (.ref b8), .val (.ref b12), .val (.ref b18), .val (.ref b64), .val (.int (0 : Int32)), .val (.int (0 : Int32)), .unset]) rfl ?_
                  refine g_iload X74 hx hby at_206 (pc' := 208) rfl rfl ?_
                  have hc208 : (0 : Int) = (0 : Int) := by decide
                  refine g_ifNo X74 hx hby at_208 (pc' := 211) (teq (show (0 : Int32) = (0 : Int32) from Int32.toInt_inj.mp hc208)).2 rfl ?_
                  refine g_iload X74 hx hby at_211 (pc' := 213) rfl rfl ?_
                  have hc213 : (0 : Int) = (0 : Int) := by decide
                  refine g_ifYes X74 hx hby at_213 (pc' := 218) (teq (show (0 : Int32) = (0 : Int32) from Int32.toInt_inj.mp hc213)).1 (by decide) (by decide) ?_
                  refine g_aload X74 hx hby at_218 (pc' := 220) rfl rfl rfl ?_
                  have q0 := own_bad0 hc128
                  have q1 := own_bad0 hc142
                  have q2 := own_bad0 hc156
                  have f76 := A64.keep Kq68
                  have f77 := (f69.keep Kq68 (allS g65 all0))
                  refine Go.callS X74 hx hZ hown (wi hw 37 rfl) (wi hw 38 rfl) (wi hw 39 rfl) (wi hw 40 rfl) (by decide) hh74 (argsL := [(.ref b64)]) (rest := []) (W := 0) (rm_chk l Z a0 hw b64 b1_68 3 (own_l [v3, v5, v7]) 2 G1 G3 h68 n0 (Nat.le_trans (Nat.le_trans z24 E64.1) Kq68.1) f76 Fq0_68 Fq1_68 Fq2_68 f77 (by decide) (by show ¬ v7.toInt = 32 ∧ ¬ v7.toInt = 9; omega) (own_rg3 (P := fun z => ¬ z.toInt = 9) q0.1 q1.1 q2.1) (own_rg3 (P := fun z => ¬ z.toInt = 10) q0.2.1 q1.2.1 q2.2.1) (own_rg3 (P := fun z => ¬ z.toInt = 13) q0.2.2 q1.2.2 q2.2.2) (by omega) (by omega) hgc O2 hG1 O4 rG3) (hb hby at_220) (by rw [hml]; rfl) rfl pd18 rfl rfl (by decide) (by decide) (by decide) (by decide) ?_
                  intro v75 T75 L75 X75 hQ75
                  obtain ⟨rfl, Nq75, hh75⟩ := hQ75
                  have N75 := Fr.app N74 Nq75
                  refine Go.push (pc' := 223) rfl ?_
                  refine g_astore X75 hx hby at_223 (pc' := 225) rfl rfl (L' := #[.val (.int p1), .val (.int p2), .val (.int p3), .val (.int p4), .val (.int (3 : Int32)), .val (.int v3), .val (.int v5), .val (.int v7), .val (.ref b8), .val (.ref b12), .val (.ref b18), .val (.ref b64), .val (.int (0 : Int32)), .val (.int (0 : Int32)), .val (.ref b64)]) rfl ?_
                  refine g_aload X75 hx hby at_225 (pc' := 227) rfl rfl rfl ?_
                  refine g_aload X75 hx hby at_227 (pc' := 229) rfl rfl rfl ?_
                  refine Go.callV X75 hx hZ hown (wi hw 106 rfl) (wi hw 107 rfl) (notFace_of_selects (args := #[]) (mvT hZ (wi hw 109 rfl))) (wi hw 109 rfl) (wi hw 108 rfl) (wi hw 7 rfl) (wi hw 110 rfl) (by decide) hh75 (a := b64) (argsL := [(.ref b64)]) (rest := []) (W := 0) f76 (rm_eq l Z a0 hw b64 b64 h68 n0 (Nat.le_trans (Nat.le_trans z24 E64.1) Kq68.1) rfl) (hb hby at_229) (by rw [hml]; rfl) rfl pd19 rfl rfl (by decide) (by decide) (by decide) (by decide) ?_
                  intro v78 T78 L78 X78 hQ78
                  obtain ⟨rfl, Nq78, hh78⟩ := hQ78
                  have N78 := Fr.app N75 Nq78
                  refine Go.push (pc' := 232) rfl ?_
                  refine Go.retZ X78 hx hlk hret (by simp) (hb hby at_232) (by decide) (by decide) ?_
                  exact ⟨rfl, N78⟩
              · refine g_icmpYes X74 hx hby at_183 (pc' := 203) (feq (show ¬ (v5 = (32 : Int32)) from fun q => hc183 (congrArg Int32.toInt q))).2 (by decide) (by decide) ?_
                refine g_iconst X74 hx hby at_203 (pc' := 204) rfl (z := (0 : Int32)) rfl ?_
                refine g_istore X74 hx hby at_204 (pc' := 206) rfl (L' := #[.val (.int p1), .val (.int p2), .val (.int p3), .val (.int p4), .val (.int (3 : Int32)), .val (.int v3), .val (.int v5), .val (.int v7), .val (.ref b8), .val (.ref b12), .val (.ref b18), .val (.ref b64), .val (.int (0 : Int32)), .val (.int (0 : Int32)), .unset]) rfl ?_
                refine g_iload X74 hx hby at_206 (pc' := 208) rfl rfl ?_
                have hc208 : (0 : Int) = (0 : Int) := by decide
                refine g_ifNo X74 hx hby at_208 (pc' := 211) (teq (show (0 : Int32) = (0 : Int32) from Int32.toInt_inj.mp hc208)).2 rfl ?_
                refine g_iload X74 hx hby at_211 (pc' := 213) rfl rfl ?_
                have hc213 : (0 : Int) = (0 : Int) := by decide
                refine g_ifYes X74 hx hby at_213 (pc' := 218) (teq (show (0 : Int32) = (0 : Int32) from Int32.toInt_inj.mp hc213)).1 (by decide) (by decide) ?_
                refine g_aload X74 hx hby at_218 (pc' := 220) rfl rfl rfl ?_
                have q0 := own_bad0 hc128
                have q1 := own_bad0 hc142
                have q2 := own_bad0 hc156
                have f80 := A64.keep Kq68
                have f81 := (f69.keep Kq68 (allS g65 all0))
                refine Go.callS X74 hx hZ hown (wi hw 37 rfl) (wi hw 38 rfl) (wi hw 39 rfl) (wi hw 40 rfl) (by decide) hh74 (argsL := [(.ref b64)]) (rest := []) (W := 0) (rm_chk l Z a0 hw b64 b1_68 3 (own_l [v3, v5, v7]) 1 G1 G3 h68 n0 (Nat.le_trans (Nat.le_trans z24 E64.1) Kq68.1) f80 Fq0_68 Fq1_68 Fq2_68 f81 (by decide) (by show ¬ v5.toInt = 32 ∧ ¬ v5.toInt = 9; omega) (own_rg3 (P := fun z => ¬ z.toInt = 9) q0.1 q1.1 q2.1) (own_rg3 (P := fun z => ¬ z.toInt = 10) q0.2.1 q1.2.1 q2.2.1) (own_rg3 (P := fun z => ¬ z.toInt = 13) q0.2.2 q1.2.2 q2.2.2) (by omega) (by omega) hgc O2 hG1 O4 rG3) (hb hby at_220) (by rw [hml]; rfl) rfl pd18 rfl rfl (by decide) (by decide) (by decide) (by decide) ?_
                intro v79 T79 L79 X79 hQ79
                obtain ⟨rfl, Nq79, hh79⟩ := hQ79
                have N79 := Fr.app N74 Nq79
                refine Go.push (pc' := 223) rfl ?_
                refine g_astore X79 hx hby at_223 (pc' := 225) rfl rfl (L' := #[.val (.int p1), .val (.int p2), .val (.int p3), .val (.int p4), .val (.int (3 : Int32)), .val (.int v3), .val (.int v5), .val (.int v7), .val (.ref b8), .val (.ref b12), .val (.ref b18), .val (.ref b64), .val (.int (0 : Int32)), .val (.int (0 : Int32)), .val (.ref b64)]) rfl ?_
                refine g_aload X79 hx hby at_225 (pc' := 227) rfl rfl rfl ?_
                refine g_aload X79 hx hby at_227 (pc' := 229) rfl rfl rfl ?_
                refine Go.callV X79 hx hZ hown (wi hw 106 rfl) (wi hw 107 rfl) (notFace_of_selects (args := #[]) (mvT hZ (wi hw 109 rfl))) (wi hw 109 rfl) (wi hw 108 rfl) (wi hw 7 rfl) (wi hw 110 rfl) (by decide) hh79 (a := b64) (argsL := [(.ref b64)]) (rest := []) (W := 0) f80 (rm_eq l Z a0 hw b64 b64 h68 n0 (Nat.le_trans (Nat.le_trans z24 E64.1) Kq68.1) rfl) (hb hby at_229) (by rw [hml]; rfl) rfl pd19 rfl rfl (by decide) (by decide) (by decide) (by decide) ?_
                intro v82 T82 L82 X82 hQ82
                obtain ⟨rfl, Nq82, hh82⟩ := hQ82
                have N82 := Fr.app N79 Nq82
                refine Go.push (pc' := 232) rfl ?_
                refine Go.retZ X82 hx hlk hret (by simp) (hb hby at_232) (by decide) (by decide) ?_
                exact ⟨rfl, N82⟩
            · refine g_icmpYes X74 hx hby at_170 (pc' := 203) (feq (show ¬ (v3 = (32 : Int32)) from fun q => hc170 (congrArg Int32.toInt q))).2 (by decide) (by decide) ?_
              refine g_iconst X74 hx hby at_203 (pc' := 204) rfl (z := (0 : Int32)) rfl ?_
              refine g_istore X74 hx hby at_204 (pc' := 206) rfl (L' := #[.val (.int p1), .val (.int p2), .val (.int p3), .val (.int p4), .val (.int (3 : Int32)), .val (.int v3), .val (.int v5), .val (.int v7), .val (.ref b8), .val (.ref b12), .val (.ref b18), .val (.ref b64), .val (.int (0 : Int32)), .val (.int (0 : Int32)), .unset]) rfl ?_
              refine g_iload X74 hx hby at_206 (pc' := 208) rfl rfl ?_
              have hc208 : (0 : Int) = (0 : Int) := by decide
              refine g_ifNo X74 hx hby at_208 (pc' := 211) (teq (show (0 : Int32) = (0 : Int32) from Int32.toInt_inj.mp hc208)).2 rfl ?_
              refine g_iload X74 hx hby at_211 (pc' := 213) rfl rfl ?_
              have hc213 : (0 : Int) = (0 : Int) := by decide
              refine g_ifYes X74 hx hby at_213 (pc' := 218) (teq (show (0 : Int32) = (0 : Int32) from Int32.toInt_inj.mp hc213)).1 (by decide) (by decide) ?_
              refine g_aload X74 hx hby at_218 (pc' := 220) rfl rfl rfl ?_
              have q0 := own_bad0 hc128
              have q1 := own_bad0 hc142
              have q2 := own_bad0 hc156
              have f84 := A64.keep Kq68
              have f85 := (f69.keep Kq68 (allS g65 all0))
              refine Go.callS X74 hx hZ hown (wi hw 37 rfl) (wi hw 38 rfl) (wi hw 39 rfl) (wi hw 40 rfl) (by decide) hh74 (argsL := [(.ref b64)]) (rest := []) (W := 0) (rm_chk l Z a0 hw b64 b1_68 3 (own_l [v3, v5, v7]) 0 G1 G3 h68 n0 (Nat.le_trans (Nat.le_trans z24 E64.1) Kq68.1) f84 Fq0_68 Fq1_68 Fq2_68 f85 (by decide) (by show ¬ v3.toInt = 32 ∧ ¬ v3.toInt = 9; omega) (own_rg3 (P := fun z => ¬ z.toInt = 9) q0.1 q1.1 q2.1) (own_rg3 (P := fun z => ¬ z.toInt = 10) q0.2.1 q1.2.1 q2.2.1) (own_rg3 (P := fun z => ¬ z.toInt = 13) q0.2.2 q1.2.2 q2.2.2) (by omega) (by omega) hgc O2 hG1 O4 rG3) (hb hby at_220) (by rw [hml]; rfl) rfl pd18 rfl rfl (by decide) (by decide) (by decide) (by decide) ?_
              intro v83 T83 L83 X83 hQ83
              obtain ⟨rfl, Nq83, hh83⟩ := hQ83
              have N83 := Fr.app N74 Nq83
              refine Go.push (pc' := 223) rfl ?_
              refine g_astore X83 hx hby at_223 (pc' := 225) rfl rfl (L' := #[.val (.int p1), .val (.int p2), .val (.int p3), .val (.int p4), .val (.int (3 : Int32)), .val (.int v3), .val (.int v5), .val (.int v7), .val (.ref b8), .val (.ref b12), .val (.ref b18), .val (.ref b64), .val (.int (0 : Int32)), .val (.int (0 : Int32)), .val (.ref b64)]) rfl ?_
              refine g_aload X83 hx hby at_225 (pc' := 227) rfl rfl rfl ?_
              refine g_aload X83 hx hby at_227 (pc' := 229) rfl rfl rfl ?_
              refine Go.callV X83 hx hZ hown (wi hw 106 rfl) (wi hw 107 rfl) (notFace_of_selects (args := #[]) (mvT hZ (wi hw 109 rfl))) (wi hw 109 rfl) (wi hw 108 rfl) (wi hw 7 rfl) (wi hw 110 rfl) (by decide) hh83 (a := b64) (argsL := [(.ref b64)]) (rest := []) (W := 0) f84 (rm_eq l Z a0 hw b64 b64 h68 n0 (Nat.le_trans (Nat.le_trans z24 E64.1) Kq68.1) rfl) (hb hby at_229) (by rw [hml]; rfl) rfl pd19 rfl rfl (by decide) (by decide) (by decide) (by decide) ?_
              intro v86 T86 L86 X86 hQ86
              obtain ⟨rfl, Nq86, hh86⟩ := hQ86
              have N86 := Fr.app N83 Nq86
              refine Go.push (pc' := 232) rfl ?_
              refine Go.retZ X86 hx hlk hret (by simp) (hb hby at_232) (by decide) (by decide) ?_
              exact ⟨rfl, N86⟩
          · refine g_ifNo X74 hx hby at_156 (pc' := 159) (feq (show ¬ ((own_bad v7) = (0 : Int32)) from fun q => hc156 (congrArg Int32.toInt q))).1 rfl ?_
            refine g_iconst X74 hx hby at_159 (pc' := 160) rfl (z := (1 : Int32)) rfl ?_
            refine g_goto X74 hx hby at_160 (pc' := 164) (by decide) (by decide) ?_
            refine g_istore X74 hx hby at_164 (pc' := 166) rfl (L' := #[.val (.int p1), .val (.int p2), .val (.int p3), .val (.int p4), .val (.int (3 : Int32)), .val (.int v3), .val (.int v5), .val (.int v7), .val (.ref b8), .val (.ref b12), .val (.ref b18), .val (.ref b64), .val (.int (1 : Int32)), .unset, .unset]) rfl ?_
            refine g_iload X74 hx hby at_166 (pc' := 168) rfl rfl ?_
            refine g_bipush X74 hx hby at_168 (pc' := 170) rfl (z := (32 : Int32)) rfl ?_
            by_cases hc170 : v3.toInt = (32 : Int)
            · refine g_icmpNo X74 hx hby at_170 (pc' := 173) (teq (show v3 = (32 : Int32) from Int32.toInt_inj.mp hc170)).2 rfl ?_
              refine g_iload X74 hx hby at_173 (pc' := 175) rfl rfl ?_
              refine g_iconst X74 hx hby at_175 (pc' := 176) rfl (z := (2 : Int32)) rfl ?_
              have hc176 : ¬ ((3 : Int) < (2 : Int)) := by decide
              refine g_icmpNo X74 hx hby at_176 (pc' := 179) (flt (show ¬ ((3 : Int32) < (2 : Int32)) from fun q => hc176 (Int32.lt_iff_toInt_lt.mp q))).1 rfl ?_
              refine g_iload X74 hx hby at_179 (pc' := 181) rfl rfl ?_
              refine g_bipush X74 hx hby at_181 (pc' := 183) rfl (z := (32 : Int32)) rfl ?_
              by_cases hc183 : v5.toInt = (32 : Int)
              · refine g_icmpNo X74 hx hby at_183 (pc' := 186) (teq (show v5 = (32 : Int32) from Int32.toInt_inj.mp hc183)).2 rfl ?_
                refine g_iload X74 hx hby at_186 (pc' := 188) rfl rfl ?_
                refine g_iconst X74 hx hby at_188 (pc' := 189) rfl (z := (3 : Int32)) rfl ?_
                have hc189 : ¬ ((3 : Int) < (3 : Int)) := by decide
                refine g_icmpNo X74 hx hby at_189 (pc' := 192) (flt (show ¬ ((3 : Int32) < (3 : Int32)) from fun q => hc189 (Int32.lt_iff_toInt_lt.mp q))).1 rfl ?_
                refine g_iload X74 hx hby at_192 (pc' := 194) rfl rfl ?_
                refine g_bipush X74 hx hby at_194 (pc' := 196) rfl (z := (32 : Int32)) rfl ?_
                by_cases hc196 : v7.toInt = (32 : Int)
                · refine g_icmpNo X74 hx hby at_196 (pc' := 199) (teq (show v7 = (32 : Int32) from Int32.toInt_inj.mp hc196)).2 rfl ?_
                  refine g_iconst X74 hx hby at_199 (pc' := 200) rfl (z := (1 : Int32)) rfl ?_
                  refine g_goto X74 hx hby at_200 (pc' := 204) (by decide) (by decide) ?_
                  refine g_istore X74 hx hby at_204 (pc' := 206) rfl (L' := #[.val (.int p1), .val (.int p2), .val (.int p3), .val (.int p4), .val (.int (3 : Int32)), .val (.int v3), .val (.int v5), .val (.int v7), .val (.ref b8), .val (.ref b12), .val (.ref b18), .val (.ref b64), .val (.int (1 : Int32)), .val (.int (1 : Int32)), .unset]) rfl ?_
                  refine g_iload X74 hx hby at_206 (pc' := 208) rfl rfl ?_
                  have hc208 : ¬ ((1 : Int) = (0 : Int)) := by decide
                  refine g_ifYes X74 hx hby at_208 (pc' := 216) (feq (show ¬ ((1 : Int32) = (0 : Int32)) from fun q => hc208 (congrArg Int32.toInt q))).2 (by decide) (by decide) ?_
                  refine g_iconst X74 hx hby at_216 (pc' := 217) rfl (z := (1 : Int32)) rfl ?_
                  refine Go.retZ X74 hx hlk hret (by simp) (hb hby at_217) (by decide) (by decide) ?_
                  exact ⟨rfl, N74⟩
                · refine g_icmpYes X74 hx hby at_196 (pc' := 203) (feq (show ¬ (v7 = (32 : Int32)) from fun q => hc196 (congrArg Int32.toInt q))).2 (by decide) (by decide) ?_
                  refine g_iconst X74 hx hby at_203 (pc' := 204) rfl (z := (0 : Int32)) rfl ?_
                  refine g_istore X74 hx hby at_204 (pc' := 206) rfl (L' := #[.val (.int p1), .val (.int p2), .val (.int p3), .val (.int p4), .val (.int (3 : Int32)), .val (.int v3), .val (.int v5), .val (.int v7), .val (.ref b8), .val (.ref b12), .val (.ref b18), .val (.ref b64), .val (.int (1 : Int32)), .val (.int (0 : Int32)), .unset]) rfl ?_
                  refine g_iload X74 hx hby at_206 (pc' := 208) rfl rfl ?_
                  have hc208 : ¬ ((1 : Int) = (0 : Int)) := by decide
                  refine g_ifYes X74 hx hby at_208 (pc' := 216) (feq (show ¬ ((1 : Int32) = (0 : Int32)) from fun q => hc208 (congrArg Int32.toInt q))).2 (by decide) (by decide) ?_
                  refine g_iconst X74 hx hby at_216 (pc' := 217) rfl (z := (1 : Int32)) rfl ?_
                  refine Go.retZ X74 hx hlk hret (by simp) (hb hby at_217) (by decide) (by decide) ?_
                  exact ⟨rfl, N74⟩
              · refine g_icmpYes X74 hx hby at_183 (pc' := 203) (feq (show ¬ (v5 = (32 : Int32)) from fun q => hc183 (congrArg Int32.toInt q))).2 (by decide) (by decide) ?_
                refine g_iconst X74 hx hby at_203 (pc' := 204) rfl (z := (0 : Int32)) rfl ?_
                refine g_istore X74 hx hby at_204 (pc' := 206) rfl (L' := #[.val (.int p1), .val (.int p2), .val (.int p3), .val (.int p4), .val (.int (3 : Int32)), .val (.int v3), .val (.int v5), .val (.int v7), .val (.ref b8), .val (.ref b12), .val (.ref b18), .val (.ref b64), .val (.int (1 : Int32)), .val (.int (0 : Int32)), .unset]) rfl ?_
                refine g_iload X74 hx hby at_206 (pc' := 208) rfl rfl ?_
                have hc208 : ¬ ((1 : Int) = (0 : Int)) := by decide
                refine g_ifYes X74 hx hby at_208 (pc' := 216) (feq (show ¬ ((1 : Int32) = (0 : Int32)) from fun q => hc208 (congrArg Int32.toInt q))).2 (by decide) (by decide) ?_
                refine g_iconst X74 hx hby at_216 (pc' := 217) rfl (z := (1 : Int32)) rfl ?_
                refine Go.retZ X74 hx hlk hret (by simp) (hb hby at_217) (by decide) (by decide) ?_
                exact ⟨rfl, N74⟩
            · refine g_icmpYes X74 hx hby at_170 (pc' := 203) (feq (show ¬ (v3 = (32 : Int32)) from fun q => hc170 (congrArg Int32.toInt q))).2 (by decide) (by decide) ?_
              refine g_iconst X74 hx hby at_203 (pc' := 204) rfl (z := (0 : Int32)) rfl ?_
              refine g_istore X74 hx hby at_204 (pc' := 206) rfl (L' := #[.val (.int p1), .val (.int p2), .val (.int p3), .val (.int p4), .val (.int (3 : Int32)), .val (.int v3), .val (.int v5), .val (.int v7), .val (.ref b8), .val (.ref b12), .val (.ref b18), .val (.ref b64), .val (.int (1 : Int32)), .val (.int (0 : Int32)), .unset]) rfl ?_
              refine g_iload X74 hx hby at_206 (pc' := 208) rfl rfl ?_
              have hc208 : ¬ ((1 : Int) = (0 : Int)) := by decide
              refine g_ifYes X74 hx hby at_208 (pc' := 216) (feq (show ¬ ((1 : Int32) = (0 : Int32)) from fun q => hc208 (congrArg Int32.toInt q))).2 (by decide) (by decide) ?_
              refine g_iconst X74 hx hby at_216 (pc' := 217) rfl (z := (1 : Int32)) rfl ?_
              refine Go.retZ X74 hx hlk hret (by simp) (hb hby at_217) (by decide) (by decide) ?_
              exact ⟨rfl, N74⟩
        · refine g_ifYes X73 hx hby at_142 (pc' := 159) (feq (show ¬ ((own_bad v5) = (0 : Int32)) from fun q => hc142 (congrArg Int32.toInt q))).2 (by decide) (by decide) ?_
          refine g_iconst X73 hx hby at_159 (pc' := 160) rfl (z := (1 : Int32)) rfl ?_
          refine g_goto X73 hx hby at_160 (pc' := 164) (by decide) (by decide) ?_
          refine g_istore X73 hx hby at_164 (pc' := 166) rfl (L' := #[.val (.int p1), .val (.int p2), .val (.int p3), .val (.int p4), .val (.int (3 : Int32)), .val (.int v3), .val (.int v5), .val (.int v7), .val (.ref b8), .val (.ref b12), .val (.ref b18), .val (.ref b64), .val (.int (1 : Int32)), .unset, .unset]) rfl ?_
          refine g_iload X73 hx hby at_166 (pc' := 168) rfl rfl ?_
          refine g_bipush X73 hx hby at_168 (pc' := 170) rfl (z := (32 : Int32)) rfl ?_
          by_cases hc170 : v3.toInt = (32 : Int)
          · refine g_icmpNo X73 hx hby at_170 (pc' := 173) (teq (show v3 = (32 : Int32) from Int32.toInt_inj.mp hc170)).2 rfl ?_
            refine g_iload X73 hx hby at_173 (pc' := 175) rfl rfl ?_
            refine g_iconst X73 hx hby at_175 (pc' := 176) rfl (z := (2 : Int32)) rfl ?_
            have hc176 : ¬ ((3 : Int) < (2 : Int)) := by decide
            refine g_icmpNo X73 hx hby at_176 (pc' := 179) (flt (show ¬ ((3 : Int32) < (2 : Int32)) from fun q => hc176 (Int32.lt_iff_toInt_lt.mp q))).1 rfl ?_
            refine g_iload X73 hx hby at_179 (pc' := 181) rfl rfl ?_
            refine g_bipush X73 hx hby at_181 (pc' := 183) rfl (z := (32 : Int32)) rfl ?_
            by_cases hc183 : v5.toInt = (32 : Int)
            · refine g_icmpNo X73 hx hby at_183 (pc' := 186) (teq (show v5 = (32 : Int32) from Int32.toInt_inj.mp hc183)).2 rfl ?_
              refine g_iload X73 hx hby at_186 (pc' := 188) rfl rfl ?_
              refine g_iconst X73 hx hby at_188 (pc' := 189) rfl (z := (3 : Int32)) rfl ?_
              have hc189 : ¬ ((3 : Int) < (3 : Int)) := by decide
              refine g_icmpNo X73 hx hby at_189 (pc' := 192) (flt (show ¬ ((3 : Int32) < (3 : Int32)) from fun q => hc189 (Int32.lt_iff_toInt_lt.mp q))).1 rfl ?_
              refine g_iload X73 hx hby at_192 (pc' := 194) rfl rfl ?_
              refine g_bipush X73 hx hby at_194 (pc' := 196) rfl (z := (32 : Int32)) rfl ?_
              by_cases hc196 : v7.toInt = (32 : Int)
              · refine g_icmpNo X73 hx hby at_196 (pc' := 199) (teq (show v7 = (32 : Int32) from Int32.toInt_inj.mp hc196)).2 rfl ?_
                refine g_iconst X73 hx hby at_199 (pc' := 200) rfl (z := (1 : Int32)) rfl ?_
                refine g_goto X73 hx hby at_200 (pc' := 204) (by decide) (by decide) ?_
                refine g_istore X73 hx hby at_204 (pc' := 206) rfl (L' := #[.val (.int p1), .val (.int p2), .val (.int p3), .val (.int p4), .val (.int (3 : Int32)), .val (.int v3), .val (.int v5), .val (.int v7), .val (.ref b8), .val (.ref b12), .val (.ref b18), .val (.ref b64), .val (.int (1 : Int32)), .val (.int (1 : Int32)), .unset]) rfl ?_
                refine g_iload X73 hx hby at_206 (pc' := 208) rfl rfl ?_
                have hc208 : ¬ ((1 : Int) = (0 : Int)) := by decide
                refine g_ifYes X73 hx hby at_208 (pc' := 216) (feq (show ¬ ((1 : Int32) = (0 : Int32)) from fun q => hc208 (congrArg Int32.toInt q))).2 (by decide) (by decide) ?_
                refine g_iconst X73 hx hby at_216 (pc' := 217) rfl (z := (1 : Int32)) rfl ?_
                refine Go.retZ X73 hx hlk hret (by simp) (hb hby at_217) (by decide) (by decide) ?_
                exact ⟨rfl, N73⟩
              · refine g_icmpYes X73 hx hby at_196 (pc' := 203) (feq (show ¬ (v7 = (32 : Int32)) from fun q => hc196 (congrArg Int32.toInt q))).2 (by decide) (by decide) ?_
                refine g_iconst X73 hx hby at_203 (pc' := 204) rfl (z := (0 : Int32)) rfl ?_
                refine g_istore X73 hx hby at_204 (pc' := 206) rfl (L' := #[.val (.int p1), .val (.int p2), .val (.int p3), .val (.int p4), .val (.int (3 : Int32)), .val (.int v3), .val (.int v5), .val (.int v7), .val (.ref b8), .val (.ref b12), .val (.ref b18), .val (.ref b64), .val (.int (1 : Int32)), .val (.int (0 : Int32)), .unset]) rfl ?_
                refine g_iload X73 hx hby at_206 (pc' := 208) rfl rfl ?_
                have hc208 : ¬ ((1 : Int) = (0 : Int)) := by decide
                refine g_ifYes X73 hx hby at_208 (pc' := 216) (feq (show ¬ ((1 : Int32) = (0 : Int32)) from fun q => hc208 (congrArg Int32.toInt q))).2 (by decide) (by decide) ?_
                refine g_iconst X73 hx hby at_216 (pc' := 217) rfl (z := (1 : Int32)) rfl ?_
                refine Go.retZ X73 hx hlk hret (by simp) (hb hby at_217) (by decide) (by decide) ?_
                exact ⟨rfl, N73⟩
            · refine g_icmpYes X73 hx hby at_183 (pc' := 203) (feq (show ¬ (v5 = (32 : Int32)) from fun q => hc183 (congrArg Int32.toInt q))).2 (by decide) (by decide) ?_
              refine g_iconst X73 hx hby at_203 (pc' := 204) rfl (z := (0 : Int32)) rfl ?_
              refine g_istore X73 hx hby at_204 (pc' := 206) rfl (L' := #[.val (.int p1), .val (.int p2), .val (.int p3), .val (.int p4), .val (.int (3 : Int32)), .val (.int v3), .val (.int v5), .val (.int v7), .val (.ref b8), .val (.ref b12), .val (.ref b18), .val (.ref b64), .val (.int (1 : Int32)), .val (.int (0 : Int32)), .unset]) rfl ?_
              refine g_iload X73 hx hby at_206 (pc' := 208) rfl rfl ?_
              have hc208 : ¬ ((1 : Int) = (0 : Int)) := by decide
              refine g_ifYes X73 hx hby at_208 (pc' := 216) (feq (show ¬ ((1 : Int32) = (0 : Int32)) from fun q => hc208 (congrArg Int32.toInt q))).2 (by decide) (by decide) ?_
              refine g_iconst X73 hx hby at_216 (pc' := 217) rfl (z := (1 : Int32)) rfl ?_
              refine Go.retZ X73 hx hlk hret (by simp) (hb hby at_217) (by decide) (by decide) ?_
              exact ⟨rfl, N73⟩
          · refine g_icmpYes X73 hx hby at_170 (pc' := 203) (feq (show ¬ (v3 = (32 : Int32)) from fun q => hc170 (congrArg Int32.toInt q))).2 (by decide) (by decide) ?_
            refine g_iconst X73 hx hby at_203 (pc' := 204) rfl (z := (0 : Int32)) rfl ?_
            refine g_istore X73 hx hby at_204 (pc' := 206) rfl (L' := #[.val (.int p1), .val (.int p2), .val (.int p3), .val (.int p4), .val (.int (3 : Int32)), .val (.int v3), .val (.int v5), .val (.int v7), .val (.ref b8), .val (.ref b12), .val (.ref b18), .val (.ref b64), .val (.int (1 : Int32)), .val (.int (0 : Int32)), .unset]) rfl ?_
            refine g_iload X73 hx hby at_206 (pc' := 208) rfl rfl ?_
            have hc208 : ¬ ((1 : Int) = (0 : Int)) := by decide
            refine g_ifYes X73 hx hby at_208 (pc' := 216) (feq (show ¬ ((1 : Int32) = (0 : Int32)) from fun q => hc208 (congrArg Int32.toInt q))).2 (by decide) (by decide) ?_
            refine g_iconst X73 hx hby at_216 (pc' := 217) rfl (z := (1 : Int32)) rfl ?_
            refine Go.retZ X73 hx hlk hret (by simp) (hb hby at_217) (by decide) (by decide) ?_
            exact ⟨rfl, N73⟩
      · refine g_ifYes X72 hx hby at_128 (pc' := 159) (feq (show ¬ ((own_bad v3) = (0 : Int32)) from fun q => hc128 (congrArg Int32.toInt q))).2 (by decide) (by decide) ?_
        refine g_iconst X72 hx hby at_159 (pc' := 160) rfl (z := (1 : Int32)) rfl ?_
        refine g_goto X72 hx hby at_160 (pc' := 164) (by decide) (by decide) ?_
        refine g_istore X72 hx hby at_164 (pc' := 166) rfl (L' := #[.val (.int p1), .val (.int p2), .val (.int p3), .val (.int p4), .val (.int (3 : Int32)), .val (.int v3), .val (.int v5), .val (.int v7), .val (.ref b8), .val (.ref b12), .val (.ref b18), .val (.ref b64), .val (.int (1 : Int32)), .unset, .unset]) rfl ?_
        refine g_iload X72 hx hby at_166 (pc' := 168) rfl rfl ?_
        refine g_bipush X72 hx hby at_168 (pc' := 170) rfl (z := (32 : Int32)) rfl ?_
        by_cases hc170 : v3.toInt = (32 : Int)
        · refine g_icmpNo X72 hx hby at_170 (pc' := 173) (teq (show v3 = (32 : Int32) from Int32.toInt_inj.mp hc170)).2 rfl ?_
          refine g_iload X72 hx hby at_173 (pc' := 175) rfl rfl ?_
          refine g_iconst X72 hx hby at_175 (pc' := 176) rfl (z := (2 : Int32)) rfl ?_
          have hc176 : ¬ ((3 : Int) < (2 : Int)) := by decide
          refine g_icmpNo X72 hx hby at_176 (pc' := 179) (flt (show ¬ ((3 : Int32) < (2 : Int32)) from fun q => hc176 (Int32.lt_iff_toInt_lt.mp q))).1 rfl ?_
          refine g_iload X72 hx hby at_179 (pc' := 181) rfl rfl ?_
          refine g_bipush X72 hx hby at_181 (pc' := 183) rfl (z := (32 : Int32)) rfl ?_
          by_cases hc183 : v5.toInt = (32 : Int)
          · refine g_icmpNo X72 hx hby at_183 (pc' := 186) (teq (show v5 = (32 : Int32) from Int32.toInt_inj.mp hc183)).2 rfl ?_
            refine g_iload X72 hx hby at_186 (pc' := 188) rfl rfl ?_
            refine g_iconst X72 hx hby at_188 (pc' := 189) rfl (z := (3 : Int32)) rfl ?_
            have hc189 : ¬ ((3 : Int) < (3 : Int)) := by decide
            refine g_icmpNo X72 hx hby at_189 (pc' := 192) (flt (show ¬ ((3 : Int32) < (3 : Int32)) from fun q => hc189 (Int32.lt_iff_toInt_lt.mp q))).1 rfl ?_
            refine g_iload X72 hx hby at_192 (pc' := 194) rfl rfl ?_
            refine g_bipush X72 hx hby at_194 (pc' := 196) rfl (z := (32 : Int32)) rfl ?_
            by_cases hc196 : v7.toInt = (32 : Int)
            · refine g_icmpNo X72 hx hby at_196 (pc' := 199) (teq (show v7 = (32 : Int32) from Int32.toInt_inj.mp hc196)).2 rfl ?_
              refine g_iconst X72 hx hby at_199 (pc' := 200) rfl (z := (1 : Int32)) rfl ?_
              refine g_goto X72 hx hby at_200 (pc' := 204) (by decide) (by decide) ?_
              refine g_istore X72 hx hby at_204 (pc' := 206) rfl (L' := #[.val (.int p1), .val (.int p2), .val (.int p3), .val (.int p4), .val (.int (3 : Int32)), .val (.int v3), .val (.int v5), .val (.int v7), .val (.ref b8), .val (.ref b12), .val (.ref b18), .val (.ref b64), .val (.int (1 : Int32)), .val (.int (1 : Int32)), .unset]) rfl ?_
              refine g_iload X72 hx hby at_206 (pc' := 208) rfl rfl ?_
              have hc208 : ¬ ((1 : Int) = (0 : Int)) := by decide
              refine g_ifYes X72 hx hby at_208 (pc' := 216) (feq (show ¬ ((1 : Int32) = (0 : Int32)) from fun q => hc208 (congrArg Int32.toInt q))).2 (by decide) (by decide) ?_
              refine g_iconst X72 hx hby at_216 (pc' := 217) rfl (z := (1 : Int32)) rfl ?_
              refine Go.retZ X72 hx hlk hret (by simp) (hb hby at_217) (by decide) (by decide) ?_
              exact ⟨rfl, N72⟩
            · refine g_icmpYes X72 hx hby at_196 (pc' := 203) (feq (show ¬ (v7 = (32 : Int32)) from fun q => hc196 (congrArg Int32.toInt q))).2 (by decide) (by decide) ?_
              refine g_iconst X72 hx hby at_203 (pc' := 204) rfl (z := (0 : Int32)) rfl ?_
              refine g_istore X72 hx hby at_204 (pc' := 206) rfl (L' := #[.val (.int p1), .val (.int p2), .val (.int p3), .val (.int p4), .val (.int (3 : Int32)), .val (.int v3), .val (.int v5), .val (.int v7), .val (.ref b8), .val (.ref b12), .val (.ref b18), .val (.ref b64), .val (.int (1 : Int32)), .val (.int (0 : Int32)), .unset]) rfl ?_
              refine g_iload X72 hx hby at_206 (pc' := 208) rfl rfl ?_
              have hc208 : ¬ ((1 : Int) = (0 : Int)) := by decide
              refine g_ifYes X72 hx hby at_208 (pc' := 216) (feq (show ¬ ((1 : Int32) = (0 : Int32)) from fun q => hc208 (congrArg Int32.toInt q))).2 (by decide) (by decide) ?_
              refine g_iconst X72 hx hby at_216 (pc' := 217) rfl (z := (1 : Int32)) rfl ?_
              refine Go.retZ X72 hx hlk hret (by simp) (hb hby at_217) (by decide) (by decide) ?_
              exact ⟨rfl, N72⟩
          · refine g_icmpYes X72 hx hby at_183 (pc' := 203) (feq (show ¬ (v5 = (32 : Int32)) from fun q => hc183 (congrArg Int32.toInt q))).2 (by decide) (by decide) ?_
            refine g_iconst X72 hx hby at_203 (pc' := 204) rfl (z := (0 : Int32)) rfl ?_
            refine g_istore X72 hx hby at_204 (pc' := 206) rfl (L' := #[.val (.int p1), .val (.int p2), .val (.int p3), .val (.int p4), .val (.int (3 : Int32)), .val (.int v3), .val (.int v5), .val (.int v7), .val (.ref b8), .val (.ref b12), .val (.ref b18), .val (.ref b64), .val (.int (1 : Int32)), .val (.int (0 : Int32)), .unset]) rfl ?_
            refine g_iload X72 hx hby at_206 (pc' := 208) rfl rfl ?_
            have hc208 : ¬ ((1 : Int) = (0 : Int)) := by decide
            refine g_ifYes X72 hx hby at_208 (pc' := 216) (feq (show ¬ ((1 : Int32) = (0 : Int32)) from fun q => hc208 (congrArg Int32.toInt q))).2 (by decide) (by decide) ?_
            refine g_iconst X72 hx hby at_216 (pc' := 217) rfl (z := (1 : Int32)) rfl ?_
            refine Go.retZ X72 hx hlk hret (by simp) (hb hby at_217) (by decide) (by decide) ?_
            exact ⟨rfl, N72⟩
        · refine g_icmpYes X72 hx hby at_170 (pc' := 203) (feq (show ¬ (v3 = (32 : Int32)) from fun q => hc170 (congrArg Int32.toInt q))).2 (by decide) (by decide) ?_
          refine g_iconst X72 hx hby at_203 (pc' := 204) rfl (z := (0 : Int32)) rfl ?_
          refine g_istore X72 hx hby at_204 (pc' := 206) rfl (L' := #[.val (.int p1), .val (.int p2), .val (.int p3), .val (.int p4), .val (.int (3 : Int32)), .val (.int v3), .val (.int v5), .val (.int v7), .val (.ref b8), .val (.ref b12), .val (.ref b18), .val (.ref b64), .val (.int (1 : Int32)), .val (.int (0 : Int32)), .unset]) rfl ?_
          refine g_iload X72 hx hby at_206 (pc' := 208) rfl rfl ?_
          have hc208 : ¬ ((1 : Int) = (0 : Int)) := by decide
          refine g_ifYes X72 hx hby at_208 (pc' := 216) (feq (show ¬ ((1 : Int32) = (0 : Int32)) from fun q => hc208 (congrArg Int32.toInt q))).2 (by decide) (by decide) ?_
          refine g_iconst X72 hx hby at_216 (pc' := 217) rfl (z := (1 : Int32)) rfl ?_
          refine Go.retZ X72 hx hlk hret (by simp) (hb hby at_217) (by decide) (by decide) ?_
          exact ⟨rfl, N72⟩
  intro J13
  refine g_iload X0 hx hby at_5 (pc' := 7) rfl rfl ?_
  by_cases hc7 : v1.toInt = (0 : Int)
  · refine g_ifNo X0 hx hby at_7 (pc' := 10) (teq (show v1 = (0 : Int32) from Int32.toInt_inj.mp hc7)).2 rfl ?_
    refine g_iconst X0 hx hby at_10 (pc' := 11) rfl (z := (3 : Int32)) rfl ?_
    refine g_istore X0 hx hby at_11 (pc' := 13) rfl (L' := #[.val (.int p1), .val (.int p2), .val (.int p3), .val (.int p4), .val (.int (3 : Int32)), .unset, .unset, .unset, .unset, .unset, .unset, .unset, .unset, .unset, .unset]) rfl ?_
    exact J13 ((3 : Int32)) (Or.inr (Or.inr rfl))
  · refine g_ifYes X0 hx hby at_7 (pc' := 13) (feq (show ¬ (v1 = (0 : Int32)) from fun q => hc7 (congrArg Int32.toInt q))).2 (by decide) (by decide) ?_
    exact J13 (v1) (own_n3 (by rw [← hv1]; have : (p1 &&& (3 : Int32)).toInt = p1.toInt % 4 := c_mask _ _ 2 (by decide) (by decide); have : -2147483648 ≤ (p1 &&& (3 : Int32)).toInt ∧ (p1 &&& (3 : Int32)).toInt < 2147483648 := rng32 _; have : -2147483648 ≤ p1.toInt ∧ p1.toInt < 2147483648 := rng32 _; omega) hc7)
set_option maxRecDepth 65536 in
set_option maxHeartbeats 40000000 in
theorem comes_1 {Post : Tables → Env → Array Value → State → Outcome → State → Prop} (hpost : ∀ tb e args s v u, (limb_1_1.after args s (.returned v) u = true ∧ limb_1_2.after args s (.returned v) u = true) → FrameEnd s (.returned v) u (Jvm.fieldLocs frame_1_writes args s ++ Jvm.arrayLocs frame_1_arrays args s ++ Jvm.staticLocs frame_1_statics s) 24 128 → Post tb e args s (.returned v) u) :
    ArmFor flags0 classFile x code maxLocals ret World_1 tables_1 room_1 Calls_1 rest_1 Pre_1 Post := by
  intro l hfl _ _ p e ha hc hk s m args below hf hA hF happ hP
  obtain ⟨hcalls, hrest, hpre⟩ := hP
  obtain ⟨-, -, -, hnamed, -, -, -, hat⟩ := (Spec.applies_iff hf).mp happ
  obtain ⟨hg, hn⟩ := and_e (Cond.before_iff.mp (show (Jvm.Cond.and given_1 narrow_1).before args s = true from hpre))
  obtain ⟨g0, r0⟩ := and_e hg
  obtain ⟨g1, r1⟩ := and_e r0
  obtain ⟨g2, r2⟩ := and_e r1
  obtain ⟨g3, g4⟩ := and_e r2
  obtain ⟨w0, w1, w2, w3, rfl⟩ : ∃ w0 w1 w2 w3 : Value, args = #[w0, w1, w2, w3] := by
    have hs : args.size = 4 := by simpa [Cond.value, given_1] using g0
    obtain ⟨L⟩ := args
    match L, hs with
    | [w0, w1, w2, w3], _ => exact ⟨w0, w1, w2, w3, rfl⟩
  have hw := fun d (hd : d ∈ tables_1) => atoms_spec (ws := Jvm.Cond.code x code maxLocals ret :: tables_1) hat d (List.mem_cons_of_mem _ hd)
  have hfit : Fit s := fun {y c} hc i hi => by
    obtain ⟨ha, rfl⟩ := Array.getElem?_eq_some_iff.mp hc
    have q := List.all_eq_true.mp ((Array.all_eq_true_iff_forall_mem.mp hF) _ (Array.getElem_mem ha)) i (List.mem_range.mpr hi)
    simpa [Array.getElem?_eq_getElem hi] using q
  obtain ⟨i0, ei0⟩ := is_v g1
  obtain rfl : w0 = (.int i0) := Option.some.inj ei0
  obtain ⟨i1, ei1⟩ := is_v g2
  obtain rfl : w1 = (.int i1) := Option.some.inj ei1
  obtain ⟨i2, ei2⟩ := is_v g3
  obtain rfl : w2 = (.int i2) := Option.some.inj ei2
  obtain ⟨i3, ei3⟩ := is_v g4
  obtain rfl : w3 = (.int i3) := Option.some.inj ei3
  obtain ⟨hsets, hown0⟩ := atoms_of _ (rest_1_c_eq ▸ (show rest_1_c.before _ s = true from hrest))
  have n5 := not_v (Cond.before_iff.mp (hsets _ (List.mem_of_getElem? (i := 2) rfl)))
  obtain ⟨j11, e10⟩ := is_v (Cond.before_iff.mp (hsets _ (List.mem_of_getElem? (i := 1) rfl)))
  have S12 : Sta s s.heap "java/lang/String" "COMPACT_STRINGS" "Z" (.int j11) := Sta.start e10 (Or.inl (hsets _ (List.mem_of_getElem? (i := 0) rfl)))
  obtain ⟨v13, e14, r15⟩ := isR_v (Cond.before_iff.mp (hsets _ (List.mem_of_getElem? (i := 8) rfl)))
  have S16 : Sta s s.heap "jdk/internal/util/Preconditions" "SIOOBE_FORMATTER" "Ljava/util/function/BiFunction;" v13 := Sta.start e14 (Or.inl (hsets _ (List.mem_of_getElem? (i := 7) rfl)))
  have c17 : ¬ (j11 = (0 : Int32)) := gotF (Cond.eq_ints e10 (Term.int_eval (0))) n5
  obtain ⟨n, o, h1, h2, h3, _, L, rfl, ⟨rfl, N⟩, hq⟩ := rm0 l s _ hw tables_1 i0 i1 i2 i3 j11 v13 s.heap s.heap.size (Nat.le_refl _) S12 (fun q => c17 (Int32.toInt_inj.mp q)) S16 r15 (Old.start s) p e ha hc hk s m _ below hf ((Spec.applies_iff_loose hf).mp happ).1 ⟨rfl, State.Warmed39.refl s, rfl⟩ trivial
  refine ⟨n, _, h1, h2, h3, hpost _ _ _ _ _ _ ⟨Cond.after_iff.mpr rfl, Cond.after_iff.mpr (eq_i res_at (Term.int_eval (1)) rfl)⟩ ⟨hq.1, hq.2.1, (hq.2.2.sift fun y hy => Or.inr (N y hy)).mono (by decide) (by decide)⟩⟩
theorem main_1_1 : Claimed_1_1 := comes_1 fun _ _ _ _ _ _ h hF => ⟨h.1, hF⟩
theorem main_1_2 : Claimed_1_2 := comes_1 fun _ _ _ _ _ _ h hF => ⟨h.2, hF⟩
end Jvm.Pilot.@@N@@
namespace Jvm.Pilot.@@N@@
open Jvm Jvm.ClassFile Sem Op Lib Jvm.Free Jvm.Stand Jvm.Pilot.@@N@@.Jvm.D
/-! MADE BY PROGRAM (witnessworld.py) out of the Statement's table words and the real class files: 21 classes; the members and pool entries that the words name. The judged class is class 1, her method 3. -/
namespace start1
open Jvm.ClassFile
def u (s : String) : CpInfo := .utf8 (stringToUtf16 s)
/-- a pool by its gaps: so many unusable entries, then the entry; so many at the end -/
def gap : Nat → List CpInfo → List CpInfo
  | 0, r => r
  | n + 1, r => .unusable :: gap n r
def poolList (es : List (Nat × CpInfo)) (last : Nat) : List CpInfo := es.foldr (fun e r => gap e.1 (e.2 :: r)) (gap last [])
def pool (es : List (Nat × CpInfo)) (last : Nat) : Array CpInfo := ⟨poolList es last⟩
def fileOf (pool : Array CpInfo) (this : Nat) (attrs : Array Attribute := #[]) (ms : Array MethodInfo := #[]) (fl : Nat := 33) (sup : Nat := 0) (ifs : Array Nat := #[]) (fds : Array FieldInfo := #[]) : ClassFile where
  minorVersion := 0
  majorVersion := 65
  constantPool := pool
  accessFlags := fl
  thisClass := this
  superClass := sup
  interfaces := ifs
  fields := fds
  methods := ms
  attributes := attrs
def plain (name : String) (sup : Option ClassId) : Class where
  name := name
  kind := .ordinary
  loader := none
  accessFlags := 33
  super := sup
  interfaces := #[]
  cf := none
  fields := #[]
  methods := #[]
  instanceTypes := #[]
  staticTypes := #[]
  resolved := #[]
  callSites := []
  init := .initialized
  statics := none
  mirror := none

def pool0 : Array CpInfo := pool [(5, u "<init>"), (0, u "()V"), (1, .class_ 10), (1, u "java/lang/Object")] 113

def k0c0 : Code := { maxStack := 0, maxLocals := 1, code := object_method_1_code, exceptionTable := #[], attributes := #[] }
def k0m0 : Method := { name := "<init>", desc := "()V", sig := { parameters := [], returnType := none }, accessFlags := 1, code := some k0c0 }
/-- java/lang/Object -/
def k0 : Class := { plain "java/lang/Object" none with
  accessFlags := 33
  interfaces := #[]
  cf := some (fileOf pool0 8 #[] #[{ accessFlags := 1, nameIndex := 5, descriptorIndex := 6, attributes := #[] }] 33 0 #[] #[])
  fields := #[]
  methods := #[k0m0]
  instanceTypes := #[]
  staticTypes := #[]
  resolved := Array.replicate 124 none
  statics := none }

def pool1 : Array CpInfo := pool [(2, .class_ 4), (1, u "java/lang/Object"), (0, u "<init>"), (0, u "()V"), (0, .methodref 8 9), (0, .class_ 10), (0, .nameAndType 11 12), (0, u "com/example/firstfail/firstfail/formats/PlainTextCheckedTestIdPinLaw"), (0, u "ch"), (0, u "(I)C"), (0, .class_ 14), (0, u "java/lang/String"), (0, .methodref 13 16), (0, .nameAndType 5 17), (0, u "([C)V"), (0, .methodref 8 19), (0, .nameAndType 20 21), (0, u "bad"), (0, u "(C)Z"), (0, .methodref 23 24), (0, .class_ 25), (0, .nameAndType 26 27), (0, u "com/example/firstfail/firstfail/formats/PlainText"), (0, u "checkedTestId"), (0, u "(Ljava/lang/String;)Ljava/lang/String;"), (0, .methodref 13 29), (0, .nameAndType 30 31), (0, u "equals"), (0, u "(Ljava/lang/Object;)Z"), (3, u "law"), (0, u "(IIII)Z")] 4

def k1m0 : Method := { name := "<init>", desc := "()V", sig := { parameters := [], returnType := none }, accessFlags := 2, code := none }
def k1c1 : Code := { maxStack := 2, maxLocals := 1, code := method_2_code, exceptionTable := #[], attributes := #[] }
def k1m1 : Method := { name := "ch", desc := "(I)C", sig := { parameters := [.int], returnType := some .char }, accessFlags := 10, code := some k1c1 }
def k1c2 : Code := { maxStack := 2, maxLocals := 1, code := method_3_code, exceptionTable := #[], attributes := #[] }
def k1m2 : Method := { name := "bad", desc := "(C)Z", sig := { parameters := [.char], returnType := some .boolean }, accessFlags := 10, code := some k1c2 }
def k1c3 : Code := { maxStack := 4, maxLocals := 15, code := code, exceptionTable := #[], attributes := #[] }
def k1m3 : Method := { name := "law", desc := "(IIII)Z", sig := { parameters := [.int, .int, .int, .int], returnType := some .boolean }, accessFlags := 9, code := some k1c3 }
/-- com/example/firstfail/firstfail/formats/PlainTextCheckedTestIdPinLaw -/
def k1 : Class := { plain "com/example/firstfail/firstfail/formats/PlainTextCheckedTestIdPinLaw" (some 0) with
  accessFlags := 49
  interfaces := #[]
  cf := some (fileOf pool1 8 #[] #[{ accessFlags := 2, nameIndex := 5, descriptorIndex := 6, attributes := #[] }, { accessFlags := 10, nameIndex := 11, descriptorIndex := 12, attributes := #[] }, { accessFlags := 10, nameIndex := 20, descriptorIndex := 21, attributes := #[] }, { accessFlags := 9, nameIndex := 35, descriptorIndex := 36, attributes := #[] }] 49 2 #[] #[])
  fields := #[]
  methods := #[k1m0, k1m1, k1m2, k1m3]
  instanceTypes := #[]
  staticTypes := #[]
  resolved := Array.replicate 41 none
  statics := none }

def pool2 : Array CpInfo := pool [(1, .class_ 2), (0, u "java/io/Serializable"), (0, .class_ 4), (0, u "java/lang/Object")] 2

/-- java/io/Serializable -/
def k2 : Class := { plain "java/io/Serializable" (some 0) with
  accessFlags := 1537
  interfaces := #[]
  cf := some (fileOf pool2 1 #[] #[] 1537 3 #[] #[])
  fields := #[]
  methods := #[]
  instanceTypes := #[]
  staticTypes := #[]
  resolved := Array.replicate 7 none
  statics := none }

def pool3 : Array CpInfo := pool [(1, .class_ 2), (0, u "java/lang/Comparable"), (0, .class_ 4), (0, u "java/lang/Object")] 7

/-- java/lang/Comparable -/
def k3 : Class := { plain "java/lang/Comparable" (some 0) with
  accessFlags := 1537
  interfaces := #[]
  cf := some (fileOf pool3 1 #[] #[] 1537 3 #[] #[])
  fields := #[]
  methods := #[]
  instanceTypes := #[]
  staticTypes := #[]
  resolved := Array.replicate 12 none
  statics := none }

def pool4 : Array CpInfo := pool [(2, .class_ 4), (1, u "java/lang/CharSequence"), (42, .class_ 48), (0, u "java/lang/CharSequence$1CodePointIterator"), (10, .class_ 60), (0, u "java/lang/CharSequence$1CharIterator"), (5, .class_ 67), (0, u "java/lang/Object")] 63

/-- java/lang/CharSequence -/
def k4 : Class := { plain "java/lang/CharSequence" (some 0) with
  accessFlags := 1537
  interfaces := #[]
  cf := some (fileOf pool4 2 #[.nestMembers #[47, 59]] #[] 1537 66 #[] #[])
  fields := #[]
  methods := #[]
  instanceTypes := #[]
  staticTypes := #[]
  resolved := Array.replicate 131 none
  statics := none }

def pool5 : Array CpInfo := pool [(1, .class_ 2), (0, u "java/lang/constant/Constable"), (0, .class_ 4), (0, u "java/lang/Object")] 6

/-- java/lang/constant/Constable -/
def k5 : Class := { plain "java/lang/constant/Constable" (some 0) with
  accessFlags := 1537
  interfaces := #[]
  cf := some (fileOf pool5 1 #[] #[] 1537 3 #[] #[])
  fields := #[]
  methods := #[]
  instanceTypes := #[]
  staticTypes := #[]
  resolved := Array.replicate 11 none
  statics := none }

def pool6 : Array CpInfo := pool [(1, .class_ 2), (0, u "java/lang/constant/ConstantDesc"), (0, .class_ 4), (0, u "java/lang/Object")] 32

/-- java/lang/constant/ConstantDesc -/
def k6 : Class := { plain "java/lang/constant/ConstantDesc" (some 0) with
  accessFlags := 1537
  interfaces := #[]
  cf := some (fileOf pool6 1 #[] #[] 1537 3 #[] #[])
  fields := #[]
  methods := #[]
  instanceTypes := #[]
  staticTypes := #[]
  resolved := Array.replicate 37 none
  statics := none }

def pool7 : Array CpInfo := pool [(1, .methodref 2 3), (0, .class_ 4), (0, .nameAndType 5 6), (0, u "java/lang/Object"), (0, u "<init>"), (0, u "()V"), (2, .fieldref 10 11), (0, .class_ 12), (0, .nameAndType 13 14), (0, u "java/lang/String"), (0, u "value"), (0, u "[B"), (0, .fieldref 10 16), (0, .nameAndType 17 18), (0, u "coder"), (0, u "B"), (2, u "hash"), (0, u "I"), (2, u "hashIsZero"), (0, u "Z"), (0, .methodref 10 28), (0, .nameAndType 5 29), (0, u "([CIILjava/lang/Void;)V"), (8, .fieldref 10 39), (0, .nameAndType 40 26), (0, u "COMPACT_STRINGS"), (1, .class_ 44), (1, u "java/lang/StringUTF16"), (0, u "compress"), (1, .methodref 42 48), (0, .nameAndType 49 50), (0, u "coderFromArrayLen"), (0, u "([BI)B"), (56, .class_ 109), (1, u "java/lang/StringLatin1"), (32, u "()Z"), (34, .methodref 42 178), (0, .nameAndType 45 179), (0, u "([CII)[B"), (154, u "()I"), (0, .methodref 10 336), (0, .nameAndType 17 337), (0, u "()B"), (25, u "([BI)C"), (27, u "(II)V"), (35, u "(I)C"), (64, .methodref 10 493), (0, .nameAndType 494 142), (0, u "isLatin1"), (0, .methodref 107 496), (0, .nameAndType 497 363), (0, u "charAt"), (3, u "checkIndex"), (3, .methodref 10 506), (0, .nameAndType 507 334), (0, u "length"), (35, u "equals"), (29, u "(Ljava/lang/Object;)Z"), (1, .class_ 576), (0, u "java/lang/CharSequence"), (22, u "CASE_INSENSITIVE_ORDER"), (0, u "Ljava/util/Comparator;"), (32, .methodref 10 634), (0, .nameAndType 635 636), (0, u "indexOf"), (0, u "(II)I"), (0, .methodref 107 638), (0, .nameAndType 635 639), (0, u "([BIII)I"), (125, u "(I)I"), (244, u "([C)V"), (42, .fieldref 1054 1055), (0, .class_ 1056), (0, .nameAndType 1057 1058), (0, u "jdk/internal/util/Preconditions"), (0, u "SIOOBE_FORMATTER"), (0, u "Ljava/util/function/BiFunction;"), (0, .methodref 1054 1060), (0, .nameAndType 501 1061), (0, u "(IILjava/util/function/BiFunction;)I"), (39, u "serialPersistentFields"), (0, u "[Ljava/io/ObjectStreamField;"), (0, .class_ 1104), (0, u "java/lang/String$CaseInsensitiveComparator"), (1, .class_ 1107), (0, u "java/io/Serializable"), (0, .class_ 1109), (0, u "java/lang/Comparable"), (0, .class_ 1111), (0, u "java/lang/constant/Constable"), (0, .class_ 1113), (0, u "java/lang/constant/ConstantDesc"), (2, u "serialVersionUID"), (0, u "J"), (3, u "REPL"), (0, u "C"), (2, u "LATIN1"), (1, u "UTF16")] 323

def k7m0 : Method := { name := "<init>", desc := "()V", sig := { parameters := [], returnType := none }, accessFlags := 1, code := none }
def k7c1 : Code := { maxStack := 5, maxLocals := 2, code := jdk_42_method_3_code, exceptionTable := #[], attributes := #[] }
def k7m1 : Method := { name := "<init>", desc := "([C)V", sig := { parameters := [(.array .char)], returnType := none }, accessFlags := 1, code := some k7c1 }
def k7c2 : Code := { maxStack := 2, maxLocals := 1, code := jdk_42_method_54_code, exceptionTable := #[], attributes := #[] }
def k7m2 : Method := { name := "length", desc := "()I", sig := { parameters := [], returnType := some .int }, accessFlags := 1, code := some k7c2 }
def k7c3 : Code := { maxStack := 2, maxLocals := 2, code := jdk_42_method_56_code, exceptionTable := #[], attributes := #[] }
def k7m3 : Method := { name := "charAt", desc := "(I)C", sig := { parameters := [.int], returnType := some .char }, accessFlags := 1, code := some k7c3 }
def k7c4 : Code := { maxStack := 2, maxLocals := 3, code := jdk_42_method_66_code, exceptionTable := #[], attributes := #[] }
def k7m4 : Method := { name := "equals", desc := "(Ljava/lang/Object;)Z", sig := { parameters := [(.object "java/lang/Object")], returnType := some .boolean }, accessFlags := 1, code := some k7c4 }
def k7c5 : Code := { maxStack := 3, maxLocals := 2, code := jdk_42_method_79_code, exceptionTable := #[], attributes := #[] }
def k7m5 : Method := { name := "indexOf", desc := "(I)I", sig := { parameters := [.int], returnType := some .int }, accessFlags := 1, code := some k7c5 }
def k7c6 : Code := { maxStack := 4, maxLocals := 3, code := jdk_42_method_80_code, exceptionTable := #[], attributes := #[] }
def k7m6 : Method := { name := "indexOf", desc := "(II)I", sig := { parameters := [.int, .int], returnType := some .int }, accessFlags := 1, code := some k7c6 }
def k7c7 : Code := { maxStack := 4, maxLocals := 6, code := jdk_42_method_149_code, exceptionTable := #[], attributes := #[] }
def k7m7 : Method := { name := "<init>", desc := "([CIILjava/lang/Void;)V", sig := { parameters := [(.array .char), .int, .int, (.object "java/lang/Void")], returnType := none }, accessFlags := 2, code := some k7c7 }
def k7c8 : Code := { maxStack := 1, maxLocals := 1, code := jdk_42_method_152_code, exceptionTable := #[], attributes := #[] }
def k7m8 : Method := { name := "coder", desc := "()B", sig := { parameters := [], returnType := some .byte }, accessFlags := 0, code := some k7c8 }
def k7c9 : Code := { maxStack := 1, maxLocals := 1, code := jdk_42_method_154_code, exceptionTable := #[], attributes := #[] }
def k7m9 : Method := { name := "isLatin1", desc := "()Z", sig := { parameters := [], returnType := some .boolean }, accessFlags := 0, code := some k7c9 }
def k7c10 : Code := { maxStack := 3, maxLocals := 2, code := jdk_42_method_155_code, exceptionTable := #[], attributes := #[] }
def k7m10 : Method := { name := "checkIndex", desc := "(II)V", sig := { parameters := [.int, .int], returnType := none }, accessFlags := 8, code := some k7c10 }
/-- java/lang/String -/
def k7 : Class := { plain "java/lang/String" (some 0) with
  accessFlags := 49
  interfaces := #[2, 3, 4, 5, 6]
  cf := some (fileOf pool7 10 #[.nestMembers #[1103]] #[{ accessFlags := 1, nameIndex := 5, descriptorIndex := 6, attributes := #[] }, { accessFlags := 1, nameIndex := 5, descriptorIndex := 1010, attributes := #[] }, { accessFlags := 1, nameIndex := 507, descriptorIndex := 334, attributes := #[] }, { accessFlags := 1, nameIndex := 497, descriptorIndex := 427, attributes := #[] }, { accessFlags := 1, nameIndex := 543, descriptorIndex := 573, attributes := #[] }, { accessFlags := 1, nameIndex := 635, descriptorIndex := 765, attributes := #[] }, { accessFlags := 1, nameIndex := 635, descriptorIndex := 636, attributes := #[] }, { accessFlags := 2, nameIndex := 5, descriptorIndex := 29, attributes := #[] }, { accessFlags := 0, nameIndex := 17, descriptorIndex := 337, attributes := #[] }, { accessFlags := 0, nameIndex := 494, descriptorIndex := 142, attributes := #[] }, { accessFlags := 8, nameIndex := 501, descriptorIndex := 391, attributes := #[] }] 49 2 #[1106, 1108, 575, 1110, 1112] #[{ accessFlags := 18, nameIndex := 13, descriptorIndex := 14, attributes := #[] }, { accessFlags := 18, nameIndex := 17, descriptorIndex := 18, attributes := #[] }, { accessFlags := 2, nameIndex := 21, descriptorIndex := 22, attributes := #[] }, { accessFlags := 2, nameIndex := 25, descriptorIndex := 26, attributes := #[] }, { accessFlags := 26, nameIndex := 1116, descriptorIndex := 1117, attributes := #[] }, { accessFlags := 24, nameIndex := 40, descriptorIndex := 26, attributes := #[] }, { accessFlags := 26, nameIndex := 1101, descriptorIndex := 1102, attributes := #[] }, { accessFlags := 26, nameIndex := 1121, descriptorIndex := 1122, attributes := #[] }, { accessFlags := 25, nameIndex := 599, descriptorIndex := 600, attributes := #[] }, { accessFlags := 24, nameIndex := 1125, descriptorIndex := 18, attributes := #[] }, { accessFlags := 24, nameIndex := 1127, descriptorIndex := 18, attributes := #[] }])
  fields := #[{ name := "value", type := (.array .byte), accessFlags := 18, slot := 0, constantValue := 0 }, { name := "coder", type := .byte, accessFlags := 18, slot := 1, constantValue := 0 }, { name := "hash", type := .int, accessFlags := 2, slot := 2, constantValue := 0 }, { name := "hashIsZero", type := .boolean, accessFlags := 2, slot := 3, constantValue := 0 }, { name := "serialVersionUID", type := .long, accessFlags := 26, slot := 0, constantValue := 0 }, { name := "COMPACT_STRINGS", type := .boolean, accessFlags := 24, slot := 1, constantValue := 0 }, { name := "serialPersistentFields", type := (.array (.object "java/io/ObjectStreamField")), accessFlags := 26, slot := 2, constantValue := 0 }, { name := "REPL", type := .char, accessFlags := 26, slot := 3, constantValue := 0 }, { name := "CASE_INSENSITIVE_ORDER", type := (.object "java/util/Comparator"), accessFlags := 25, slot := 4, constantValue := 0 }, { name := "LATIN1", type := .byte, accessFlags := 24, slot := 5, constantValue := 0 }, { name := "UTF16", type := .byte, accessFlags := 24, slot := 6, constantValue := 0 }]
  methods := #[k7m0, k7m1, k7m2, k7m3, k7m4, k7m5, k7m6, k7m7, k7m8, k7m9, k7m10]
  instanceTypes := #[(.array .byte), .byte, .int, .boolean]
  staticTypes := #[.long, .boolean, (.array (.object "java/io/ObjectStreamField")), .char, (.object "java/util/Comparator"), .byte, .byte]
  resolved := Array.replicate 1451 none
  statics := some 0 }

def pool8 : Array CpInfo := pool [(6, .class_ 8), (1, u "java/lang/Object"), (0, u "<init>"), (0, u "()V"), (1, .class_ 14), (1, u "java/lang/StringUTF16"), (31, u "$assertionsDisabled"), (0, u "Z"), (13, u "HI_BYTE_SHIFT"), (0, u "I"), (2, u "LO_BYTE_SHIFT"), (49, .methodref 12 116), (0, .nameAndType 117 118), (0, u "compress"), (0, u "([CI[BII)I"), (3, u "([CII)[B"), (138, u "coderFromArrayLen"), (0, u "([BI)B"), (106, .class_ 371), (1, u "java/lang/StringUTF16$LinesSpliterator"), (58, u "MAX_LENGTH"), (196, .class_ 628), (0, u "java/lang/StringUTF16$CodePointsSpliterator"), (0, .class_ 630), (0, u "java/lang/StringUTF16$CharsSpliterator")] 4

def k8m0 : Method := { name := "<init>", desc := "()V", sig := { parameters := [], returnType := none }, accessFlags := 0, code := none }
def k8c1 : Code := { maxStack := 2, maxLocals := 2, code := jdk_52_method_15_code, exceptionTable := #[], attributes := #[] }
def k8m1 : Method := { name := "coderFromArrayLen", desc := "([BI)B", sig := { parameters := [(.array .byte), .int], returnType := some .byte }, accessFlags := 8, code := some k8c1 }
def k8c2 : Code := { maxStack := 5, maxLocals := 6, code := jdk_52_method_16_code, exceptionTable := #[], attributes := #[] }
def k8m2 : Method := { name := "compress", desc := "([CII)[B", sig := { parameters := [(.array .char), .int, .int], returnType := some (.array .byte) }, accessFlags := 9, code := some k8c2 }
def k8c3 : Code := { maxStack := 3, maxLocals := 7, code := jdk_52_method_21_code, exceptionTable := #[], attributes := #[] }
def k8m3 : Method := { name := "compress", desc := "([CI[BII)I", sig := { parameters := [(.array .char), .int, (.array .byte), .int, .int], returnType := some .int }, accessFlags := 9, code := some k8c3 }
/-- java/lang/StringUTF16 -/
def k8 : Class := { plain "java/lang/StringUTF16" (some 0) with
  accessFlags := 48
  interfaces := #[]
  cf := some (fileOf pool8 12 #[.nestMembers #[627, 629, 369]] #[{ accessFlags := 0, nameIndex := 9, descriptorIndex := 10, attributes := #[] }, { accessFlags := 8, nameIndex := 261, descriptorIndex := 262, attributes := #[] }, { accessFlags := 9, nameIndex := 117, descriptorIndex := 122, attributes := #[] }, { accessFlags := 9, nameIndex := 117, descriptorIndex := 118, attributes := #[] }] 48 6 #[] #[{ accessFlags := 26, nameIndex := 61, descriptorIndex := 62, attributes := #[] }, { accessFlags := 26, nameIndex := 65, descriptorIndex := 62, attributes := #[] }, { accessFlags := 24, nameIndex := 430, descriptorIndex := 62, attributes := #[] }, { accessFlags := 4120, nameIndex := 46, descriptorIndex := 47, attributes := #[] }])
  fields := #[{ name := "HI_BYTE_SHIFT", type := .int, accessFlags := 26, slot := 0, constantValue := 0 }, { name := "LO_BYTE_SHIFT", type := .int, accessFlags := 26, slot := 1, constantValue := 0 }, { name := "MAX_LENGTH", type := .int, accessFlags := 24, slot := 2, constantValue := 0 }, { name := "$assertionsDisabled", type := .boolean, accessFlags := 4120, slot := 3, constantValue := 0 }]
  methods := #[k8m0, k8m1, k8m2, k8m3]
  instanceTypes := #[]
  staticTypes := #[.int, .int, .int, .boolean]
  resolved := Array.replicate 635 none
  statics := none }

def pool9 : Array CpInfo := pool [(2, .class_ 4), (1, u "java/lang/Object"), (0, u "<init>"), (0, u "()V"), (14, .class_ 23), (1, u "com/example/firstfail/firstfail/formats/PlainText"), (57, .class_ 83), (1, u "java/lang/String"), (6, .methodref 81 91), (0, .nameAndType 92 93), (0, u "indexOf"), (0, u "(I)I"), (7, u "(Ljava/lang/String;)Ljava/lang/String;"), (70, .methodref 81 173), (0, .nameAndType 174 175), (0, u "length"), (0, u "()I"), (0, .methodref 81 177), (0, .nameAndType 178 179), (0, u "charAt"), (0, u "(I)C"), (0, .methodref 21 181), (0, .nameAndType 182 183), (0, u "isSpaceOrTab"), (0, u "(C)Z"), (0, .methodref 21 185), (0, .nameAndType 186 187), (0, u "isBlank"), (0, u "(Ljava/lang/String;)Z"), (67, u "DECIMAL"), (0, u "Ljava/util/regex/Pattern;"), (20, u "checkedTestId"), (6, u "FORBID"), (0, u "Ljava/lang/String;")] 113

def k9m0 : Method := { name := "<init>", desc := "()V", sig := { parameters := [], returnType := none }, accessFlags := 2, code := none }
def k9c1 : Code := { maxStack := 2, maxLocals := 2, code := prog_18_method_12_code, exceptionTable := #[], attributes := #[] }
def k9m1 : Method := { name := "isBlank", desc := "(Ljava/lang/String;)Z", sig := { parameters := [(.object "java/lang/String")], returnType := some .boolean }, accessFlags := 10, code := some k9c1 }
def k9c2 : Code := { maxStack := 2, maxLocals := 1, code := prog_18_method_13_code, exceptionTable := #[], attributes := #[] }
def k9m2 : Method := { name := "isSpaceOrTab", desc := "(C)Z", sig := { parameters := [.char], returnType := some .boolean }, accessFlags := 10, code := some k9c2 }
def k9c3 : Code := { maxStack := 3, maxLocals := 1, code := prog_18_method_15_code, exceptionTable := #[], attributes := #[] }
def k9m3 : Method := { name := "checkedTestId", desc := "(Ljava/lang/String;)Ljava/lang/String;", sig := { parameters := [(.object "java/lang/String")], returnType := some (.object "java/lang/String") }, accessFlags := 8, code := some k9c3 }
/-- com/example/firstfail/firstfail/formats/PlainText -/
def k9 : Class := { plain "com/example/firstfail/firstfail/formats/PlainText" (some 0) with
  accessFlags := 49
  interfaces := #[]
  cf := some (fileOf pool9 21 #[] #[{ accessFlags := 2, nameIndex := 5, descriptorIndex := 6, attributes := #[] }, { accessFlags := 10, nameIndex := 186, descriptorIndex := 187, attributes := #[] }, { accessFlags := 10, nameIndex := 182, descriptorIndex := 183, attributes := #[] }, { accessFlags := 8, nameIndex := 277, descriptorIndex := 101, attributes := #[] }] 49 2 #[] #[{ accessFlags := 26, nameIndex := 255, descriptorIndex := 256, attributes := #[] }, { accessFlags := 26, nameIndex := 284, descriptorIndex := 285, attributes := #[] }])
  fields := #[{ name := "DECIMAL", type := (.object "java/util/regex/Pattern"), accessFlags := 26, slot := 0, constantValue := 0 }, { name := "FORBID", type := (.object "java/lang/String"), accessFlags := 26, slot := 1, constantValue := 0 }]
  methods := #[k9m0, k9m1, k9m2, k9m3]
  instanceTypes := #[]
  staticTypes := #[(.object "java/util/regex/Pattern"), (.object "java/lang/String")]
  resolved := Array.replicate 399 none
  statics := none }

def pool10 : Array CpInfo := pool [(1, .class_ 2), (0, u "java/lang/String"), (1, .class_ 6), (1, u "java/lang/Object"), (0, u "<init>"), (0, u "()V"), (0, .methodref 1 10), (0, .nameAndType 11 12), (0, u "checkIndex"), (0, u "(II)V"), (1, .class_ 16), (1, u "java/lang/StringLatin1"), (21, .methodref 39 40), (0, .class_ 41), (0, .nameAndType 42 43), (0, u "java/lang/Math"), (0, u "min"), (0, u "(II)I"), (9, u "([BI)C"), (34, .methodref 14 89), (0, .nameAndType 90 91), (0, u "canEncode"), (0, u "(I)Z"), (0, .methodref 39 93), (0, .nameAndType 94 43), (0, u "max"), (0, .methodref 14 96), (0, .nameAndType 97 98), (0, u "indexOfChar"), (0, u "([BIII)I"), (2, u "indexOf"), (19, u "$assertionsDisabled"), (0, u "Z"), (98, .class_ 223), (1, u "java/lang/StringLatin1$LinesSpliterator"), (28, u "charAt"), (137, .class_ 391), (0, u "java/lang/StringLatin1$CharsSpliterator")] 3

def k10m0 : Method := { name := "<init>", desc := "()V", sig := { parameters := [], returnType := none }, accessFlags := 0, code := none }
def k10c1 : Code := { maxStack := 2, maxLocals := 2, code := jdk_43_method_2_code, exceptionTable := #[], attributes := #[] }
def k10m1 : Method := { name := "charAt", desc := "([BI)C", sig := { parameters := [(.array .byte), .int], returnType := some .char }, accessFlags := 9, code := some k10c1 }
def k10c2 : Code := { maxStack := 2, maxLocals := 1, code := jdk_43_method_4_code, exceptionTable := #[], attributes := #[] }
def k10m2 : Method := { name := "canEncode", desc := "(I)Z", sig := { parameters := [.int], returnType := some .boolean }, accessFlags := 9, code := some k10c2 }
def k10c3 : Code := { maxStack := 4, maxLocals := 4, code := jdk_43_method_22_code, exceptionTable := #[], attributes := #[] }
def k10m3 : Method := { name := "indexOf", desc := "([BIII)I", sig := { parameters := [(.array .byte), .int, .int, .int], returnType := some .int }, accessFlags := 9, code := some k10c3 }
def k10c4 : Code := { maxStack := 2, maxLocals := 6, code := jdk_43_method_23_code, exceptionTable := #[], attributes := #[] }
def k10m4 : Method := { name := "indexOfChar", desc := "([BIII)I", sig := { parameters := [(.array .byte), .int, .int, .int], returnType := some .int }, accessFlags := 10, code := some k10c4 }
/-- java/lang/StringLatin1 -/
def k10 : Class := { plain "java/lang/StringLatin1" (some 0) with
  accessFlags := 48
  interfaces := #[]
  cf := some (fileOf pool10 14 #[.nestMembers #[390, 221]] #[{ accessFlags := 0, nameIndex := 7, descriptorIndex := 8, attributes := #[] }, { accessFlags := 9, nameIndex := 252, descriptorIndex := 53, attributes := #[] }, { accessFlags := 9, nameIndex := 90, descriptorIndex := 91, attributes := #[] }, { accessFlags := 9, nameIndex := 101, descriptorIndex := 98, attributes := #[] }, { accessFlags := 10, nameIndex := 97, descriptorIndex := 98, attributes := #[] }] 48 4 #[] #[{ accessFlags := 4120, nameIndex := 121, descriptorIndex := 122, attributes := #[] }])
  fields := #[{ name := "$assertionsDisabled", type := .boolean, accessFlags := 4120, slot := 0, constantValue := 0 }]
  methods := #[k10m0, k10m1, k10m2, k10m3, k10m4]
  instanceTypes := #[]
  staticTypes := #[.boolean]
  resolved := Array.replicate 395 none
  statics := none }

def pool11 : Array CpInfo := pool [(2, .class_ 4), (1, u "java/lang/Object"), (0, u "<init>"), (0, u "()V"), (17, .class_ 26), (1, u "jdk/internal/util/Preconditions"), (6, u "checkIndex"), (21, .class_ 56), (0, u "jdk/internal/util/Preconditions$4"), (57, .class_ 115), (0, u "jdk/internal/util/Preconditions$1"), (7, u "SIOOBE_FORMATTER"), (0, u "Ljava/util/function/BiFunction;"), (0, .class_ 126), (0, u "jdk/internal/util/Preconditions$2"), (3, u "AIOOBE_FORMATTER"), (0, .class_ 132), (0, u "jdk/internal/util/Preconditions$3"), (3, u "IOOBE_FORMATTER"), (41, u "(IILjava/util/function/BiFunction;)I")] 15

def k11m0 : Method := { name := "<init>", desc := "()V", sig := { parameters := [], returnType := none }, accessFlags := 1, code := none }
def k11c1 : Code := { maxStack := 3, maxLocals := 3, code := jdk_41_method_11_code, exceptionTable := #[], attributes := #[] }
def k11m1 : Method := { name := "checkIndex", desc := "(IILjava/util/function/BiFunction;)I", sig := { parameters := [.int, .int, (.object "java/util/function/BiFunction")], returnType := some .int }, accessFlags := 9, code := some k11c1 }
/-- jdk/internal/util/Preconditions -/
def k11 : Class := { plain "jdk/internal/util/Preconditions" (some 0) with
  accessFlags := 33
  interfaces := #[]
  cf := some (fileOf pool11 24 #[.nestMembers #[55, 131, 125, 114]] #[{ accessFlags := 1, nameIndex := 5, descriptorIndex := 6, attributes := #[] }, { accessFlags := 9, nameIndex := 33, descriptorIndex := 178, attributes := #[] }] 33 2 #[] #[{ accessFlags := 25, nameIndex := 123, descriptorIndex := 124, attributes := #[] }, { accessFlags := 25, nameIndex := 130, descriptorIndex := 124, attributes := #[] }, { accessFlags := 25, nameIndex := 136, descriptorIndex := 124, attributes := #[] }])
  fields := #[{ name := "SIOOBE_FORMATTER", type := (.object "java/util/function/BiFunction"), accessFlags := 25, slot := 0, constantValue := 0 }, { name := "AIOOBE_FORMATTER", type := (.object "java/util/function/BiFunction"), accessFlags := 25, slot := 1, constantValue := 0 }, { name := "IOOBE_FORMATTER", type := (.object "java/util/function/BiFunction"), accessFlags := 25, slot := 2, constantValue := 0 }]
  methods := #[k11m0, k11m1]
  instanceTypes := #[]
  staticTypes := #[(.object "java/util/function/BiFunction"), (.object "java/util/function/BiFunction"), (.object "java/util/function/BiFunction")]
  resolved := Array.replicate 194 none
  statics := some 1 }

def pool12 : Array CpInfo := pool [(1, .class_ 2), (0, u "java/lang/Math"), (1, .class_ 6), (1, u "java/lang/Object"), (0, u "<init>"), (0, u "()V"), (89, .class_ 100), (1, u "java/lang/Math$RandomNumberGeneratorHolder"), (71, u "negativeZeroFloatBits"), (0, u "J"), (2, u "negativeZeroDoubleBits"), (21, u "max"), (2, u "min"), (43, u "$assertionsDisabled"), (0, u "Z"), (88, u "(II)I"), (2, u "twoToTheDoubleScaleDown"), (0, u "D"), (4, u "twoToTheDoubleScaleUp"), (9, u "E"), (3, u "PI"), (2, u "TAU"), (2, u "DEGREES_TO_RADIANS"), (0, u "RADIANS_TO_DEGREES")] 94

def k12m0 : Method := { name := "<init>", desc := "()V", sig := { parameters := [], returnType := none }, accessFlags := 2, code := none }
def k12c1 : Code := { maxStack := 2, maxLocals := 2, code := jdk_29_method_65_code, exceptionTable := #[], attributes := #[] }
def k12m1 : Method := { name := "max", desc := "(II)I", sig := { parameters := [.int, .int], returnType := some .int }, accessFlags := 9, code := some k12c1 }
def k12c2 : Code := { maxStack := 2, maxLocals := 2, code := jdk_29_method_69_code, exceptionTable := #[], attributes := #[] }
def k12m2 : Method := { name := "min", desc := "(II)I", sig := { parameters := [.int, .int], returnType := some .int }, accessFlags := 9, code := some k12c2 }
/-- java/lang/Math -/
def k12 : Class := { plain "java/lang/Math" (some 0) with
  accessFlags := 49
  interfaces := #[]
  cf := some (fileOf pool12 1 #[.nestMembers #[98]] #[{ accessFlags := 2, nameIndex := 7, descriptorIndex := 8, attributes := #[] }, { accessFlags := 9, nameIndex := 198, descriptorIndex := 335, attributes := #[] }, { accessFlags := 9, nameIndex := 201, descriptorIndex := 335, attributes := #[] }] 49 4 #[] #[{ accessFlags := 25, nameIndex := 354, descriptorIndex := 339, attributes := #[] }, { accessFlags := 25, nameIndex := 358, descriptorIndex := 339, attributes := #[] }, { accessFlags := 25, nameIndex := 361, descriptorIndex := 339, attributes := #[] }, { accessFlags := 26, nameIndex := 364, descriptorIndex := 339, attributes := #[] }, { accessFlags := 26, nameIndex := 365, descriptorIndex := 339, attributes := #[] }, { accessFlags := 26, nameIndex := 172, descriptorIndex := 173, attributes := #[] }, { accessFlags := 26, nameIndex := 176, descriptorIndex := 173, attributes := #[] }, { accessFlags := 8, nameIndex := 344, descriptorIndex := 339, attributes := #[] }, { accessFlags := 8, nameIndex := 338, descriptorIndex := 339, attributes := #[] }, { accessFlags := 4120, nameIndex := 245, descriptorIndex := 246, attributes := #[] }])
  fields := #[{ name := "E", type := .double, accessFlags := 25, slot := 0, constantValue := 0 }, { name := "PI", type := .double, accessFlags := 25, slot := 1, constantValue := 0 }, { name := "TAU", type := .double, accessFlags := 25, slot := 2, constantValue := 0 }, { name := "DEGREES_TO_RADIANS", type := .double, accessFlags := 26, slot := 3, constantValue := 0 }, { name := "RADIANS_TO_DEGREES", type := .double, accessFlags := 26, slot := 4, constantValue := 0 }, { name := "negativeZeroFloatBits", type := .long, accessFlags := 26, slot := 5, constantValue := 0 }, { name := "negativeZeroDoubleBits", type := .long, accessFlags := 26, slot := 6, constantValue := 0 }, { name := "twoToTheDoubleScaleUp", type := .double, accessFlags := 8, slot := 7, constantValue := 0 }, { name := "twoToTheDoubleScaleDown", type := .double, accessFlags := 8, slot := 8, constantValue := 0 }, { name := "$assertionsDisabled", type := .boolean, accessFlags := 4120, slot := 9, constantValue := 0 }]
  methods := #[k12m0, k12m1, k12m2]
  instanceTypes := #[]
  staticTypes := #[.double, .double, .double, .double, .double, .long, .long, .double, .double, .boolean]
  resolved := Array.replicate 460 none
  statics := none }

def pool13 : Array CpInfo := pool [(9, u "<init>"), (6, .class_ 18), (1, u "java/lang/Object"), (0, u "()V"), (1, .class_ 23), (1, u "jdk/internal/util/ArraysSupport"), (0, u "LOG2_ARRAY_LONG_INDEX_SCALE"), (0, u "I"), (2, u "U"), (0, u "Ljdk/internal/misc/Unsafe;"), (8, u "BIG_ENDIAN"), (0, u "Z"), (8, u "LOG2_BYTE_BIT_SIZE"), (4, u "LOG2_ARRAY_INT_INDEX_SCALE"), (54, u "JLA"), (0, u "Ljdk/internal/access/JavaLangAccess;"), (11, u "LOG2_ARRAY_BOOLEAN_INDEX_SCALE"), (9, u "LOG2_ARRAY_BYTE_INDEX_SCALE"), (5, u "LOG2_ARRAY_CHAR_INDEX_SCALE"), (5, u "LOG2_ARRAY_SHORT_INDEX_SCALE"), (18, u "LOG2_ARRAY_FLOAT_INDEX_SCALE"), (24, u "LOG2_ARRAY_DOUBLE_INDEX_SCALE"), (89, u "T_BOOLEAN"), (2, u "T_CHAR"), (1, u "T_FLOAT"), (1, u "T_DOUBLE"), (1, u "T_BYTE"), (1, u "T_SHORT"), (1, u "T_INT"), (1, u "T_LONG"), (1, u "SOFT_MAX_ARRAY_LENGTH")] 83

def k13m0 : Method := { name := "<init>", desc := "()V", sig := { parameters := [], returnType := none }, accessFlags := 2, code := none }
/-- jdk/internal/util/ArraysSupport -/
def k13 : Class := { plain "jdk/internal/util/ArraysSupport" (some 0) with
  accessFlags := 33
  interfaces := #[]
  cf := some (fileOf pool13 21 #[] #[{ accessFlags := 2, nameIndex := 9, descriptorIndex := 19, attributes := #[] }] 33 16 #[] #[{ accessFlags := 24, nameIndex := 28, descriptorIndex := 29, attributes := #[] }, { accessFlags := 26, nameIndex := 38, descriptorIndex := 39, attributes := #[] }, { accessFlags := 25, nameIndex := 121, descriptorIndex := 25, attributes := #[] }, { accessFlags := 25, nameIndex := 131, descriptorIndex := 25, attributes := #[] }, { accessFlags := 25, nameIndex := 137, descriptorIndex := 25, attributes := #[] }, { accessFlags := 25, nameIndex := 143, descriptorIndex := 25, attributes := #[] }, { accessFlags := 25, nameIndex := 53, descriptorIndex := 25, attributes := #[] }, { accessFlags := 25, nameIndex := 24, descriptorIndex := 25, attributes := #[] }, { accessFlags := 25, nameIndex := 162, descriptorIndex := 25, attributes := #[] }, { accessFlags := 25, nameIndex := 187, descriptorIndex := 25, attributes := #[] }, { accessFlags := 26, nameIndex := 48, descriptorIndex := 25, attributes := #[] }, { accessFlags := 25, nameIndex := 277, descriptorIndex := 25, attributes := #[] }, { accessFlags := 25, nameIndex := 280, descriptorIndex := 25, attributes := #[] }, { accessFlags := 25, nameIndex := 282, descriptorIndex := 25, attributes := #[] }, { accessFlags := 25, nameIndex := 284, descriptorIndex := 25, attributes := #[] }, { accessFlags := 25, nameIndex := 286, descriptorIndex := 25, attributes := #[] }, { accessFlags := 25, nameIndex := 288, descriptorIndex := 25, attributes := #[] }, { accessFlags := 25, nameIndex := 290, descriptorIndex := 25, attributes := #[] }, { accessFlags := 25, nameIndex := 292, descriptorIndex := 25, attributes := #[] }, { accessFlags := 26, nameIndex := 108, descriptorIndex := 109, attributes := #[] }, { accessFlags := 25, nameIndex := 294, descriptorIndex := 25, attributes := #[] }])
  fields := #[{ name := "U", type := (.object "jdk/internal/misc/Unsafe"), accessFlags := 24, slot := 0, constantValue := 0 }, { name := "BIG_ENDIAN", type := .boolean, accessFlags := 26, slot := 1, constantValue := 0 }, { name := "LOG2_ARRAY_BOOLEAN_INDEX_SCALE", type := .int, accessFlags := 25, slot := 2, constantValue := 0 }, { name := "LOG2_ARRAY_BYTE_INDEX_SCALE", type := .int, accessFlags := 25, slot := 3, constantValue := 0 }, { name := "LOG2_ARRAY_CHAR_INDEX_SCALE", type := .int, accessFlags := 25, slot := 4, constantValue := 0 }, { name := "LOG2_ARRAY_SHORT_INDEX_SCALE", type := .int, accessFlags := 25, slot := 5, constantValue := 0 }, { name := "LOG2_ARRAY_INT_INDEX_SCALE", type := .int, accessFlags := 25, slot := 6, constantValue := 0 }, { name := "LOG2_ARRAY_LONG_INDEX_SCALE", type := .int, accessFlags := 25, slot := 7, constantValue := 0 }, { name := "LOG2_ARRAY_FLOAT_INDEX_SCALE", type := .int, accessFlags := 25, slot := 8, constantValue := 0 }, { name := "LOG2_ARRAY_DOUBLE_INDEX_SCALE", type := .int, accessFlags := 25, slot := 9, constantValue := 0 }, { name := "LOG2_BYTE_BIT_SIZE", type := .int, accessFlags := 26, slot := 10, constantValue := 0 }, { name := "T_BOOLEAN", type := .int, accessFlags := 25, slot := 11, constantValue := 0 }, { name := "T_CHAR", type := .int, accessFlags := 25, slot := 12, constantValue := 0 }, { name := "T_FLOAT", type := .int, accessFlags := 25, slot := 13, constantValue := 0 }, { name := "T_DOUBLE", type := .int, accessFlags := 25, slot := 14, constantValue := 0 }, { name := "T_BYTE", type := .int, accessFlags := 25, slot := 15, constantValue := 0 }, { name := "T_SHORT", type := .int, accessFlags := 25, slot := 16, constantValue := 0 }, { name := "T_INT", type := .int, accessFlags := 25, slot := 17, constantValue := 0 }, { name := "T_LONG", type := .int, accessFlags := 25, slot := 18, constantValue := 0 }, { name := "JLA", type := (.object "jdk/internal/access/JavaLangAccess"), accessFlags := 26, slot := 19, constantValue := 0 }, { name := "SOFT_MAX_ARRAY_LENGTH", type := .int, accessFlags := 25, slot := 20, constantValue := 0 }]
  methods := #[k13m0]
  instanceTypes := #[]
  staticTypes := #[(.object "jdk/internal/misc/Unsafe"), .boolean, .int, .int, .int, .int, .int, .int, .int, .int, .int, .int, .int, .int, .int, .int, .int, .int, .int, (.object "jdk/internal/access/JavaLangAccess"), .int]
  resolved := Array.replicate 378 none
  statics := none }

def pool14 : Array CpInfo := pool [(1, u "java/lang/Cloneable"), (0, .class_ 1), (0, u "java/lang/Object"), (0, .class_ 3)] 3

/-- java/lang/Cloneable -/
def k14 : Class := { plain "java/lang/Cloneable" (some 0) with
  accessFlags := 1537
  interfaces := #[]
  cf := some (fileOf pool14 2 #[] #[] 1537 4 #[] #[])
  fields := #[]
  methods := #[]
  instanceTypes := #[]
  staticTypes := #[]
  resolved := Array.replicate 8 none
  statics := none }

/-- the primitive byte -/
def k15 : Class := { plain "byte" none with kind := .primitive 'B', accessFlags := 0x411 }
/-- [B -/
def k16 : Class := { plain "[B" (some 0) with kind := .array 15 .byte, interfaces := #[14, 2], accessFlags := 1041 }

/-- the primitive char -/
def k17 : Class := { plain "char" none with kind := .primitive 'C', accessFlags := 0x411 }
/-- [C -/
def k18 : Class := { plain "[C" (some 0) with kind := .array 17 .char, interfaces := #[14, 2], accessFlags := 1041 }

/-- the primitive int -/
def k19 : Class := { plain "int" none with kind := .primitive 'I', accessFlags := 0x411 }
/-- [I -/
def k20 : Class := { plain "[I" (some 0) with kind := .array 19 .int, interfaces := #[14, 2], accessFlags := 1041 }

def heap : Heap := #[{ cls := 7, slots := #[.long 0, .int 1, .null, .int 0, .null, .int 0, .int 0], vm := .statics 7 },
  { cls := 11, slots := #[.null, .null, .null], vm := .statics 11 }]
def classes : Array Class := #[k0, k1, k2, k3, k4, k5, k6, k7, k8, k9, k10, k11, k12, k13, k14, k15, k16, k17, k18, k19, k20]
def interned : List (Array UInt16 × Addr) := []
def slotsUsed : Nat := 10
def theMethod : MethodId := ⟨1, 3⟩
def args0 : Array Value := #[.int 1, .int 391, .int 395, .int 399]
def aboutOver (below : List Frame) : State where
  vm := { classes := classes, interned := interned.toArray }
  heap := heap
  slotsUsed := slotsUsed
  threads := #[{ frames := .invoking theMethod args0 :: below }]
def below0 : List Frame := [.native { method := ⟨0, 0⟩, args := #[] }]
def about1 : State := aboutOver below0
def p0 : Program := .bare "" "" ""
def e0 : Env := launch0.env 0 0 0
theorem w_frames : about1.frames = Frame.invoking theMethod args0 :: below0 := rfl
set_option maxRecDepth 65536 in
theorem w_args : argsFit about1.vm theMethod args0 = true := by decide +kernel
set_option maxRecDepth 65536 in
theorem w_heap : heapFits about1 = true := by decide +kernel
set_option maxRecDepth 65536 in
theorem w_runnable : about1.curStatus? = some .runnable := by decide +kernel
set_option maxRecDepth 65536 in
theorem w_alone : about1.alone = true := by decide +kernel
set_option maxRecDepth 65536 in
theorem w_named : about1.methodNamed? x = some theMethod := by decide +kernel
set_option maxRecDepth 65536 in
theorem w_hears : about1.hears theMethod below0 = true := by decide +kernel
set_option maxRecDepth 65536 in
theorem w_ripe : about1.ripe theMethod args0 below0 = true := by decide +kernel
theorem w_running : about1.status = .running := rfl
set_option maxRecDepth 65536 in
theorem w_room : about1.hasRoom e0.platform room_1 = true :=
  launch0.hasRoom_least _ room_1 (by decide +kernel) (by decide +kernel) (by decide +kernel) (by decide +kernel) (by decide +kernel) (by decide +kernel)
theorem allAtoms_all (ts : List Jvm.Cond) (a : Array Jvm.Value) (st : Jvm.State) : (allAtoms ts).before a st = ts.all (fun c => c.before a st) := by
  induction ts with
  | nil => rfl
  | cons c t ih =>
    show (Jvm.Cond.and c (allAtoms t)).before a st = _
    rw [Jvm.Cond.before_and, ih, List.all_cons]
def words1 : List Jvm.Cond := Jvm.Cond.code x code maxLocals ret :: tables_1
/-- a 'code' word, met by the world's own term for the bytes: nothing is compared byte by byte -/
theorem code_word {y : MethodName} {bytes : ByteArray} {mx : Nat} {rt : Option FieldType} {a : Array Value} {s : State} {m : MethodId} {meth : Method} {c : Code} (h1 : s.methodNamed? y = some m) (h2 : s.vm.method? m = some meth) (h3 : meth.code = some c) (h4 : c.code = bytes)
    (h5 : (c.maxLocals == mx && c.exceptionTable.isEmpty && decide (c.maxStack ≤ mostOperands) && decide (meth.sig.returnType = rt) && !meth.locks && decide (parseMethodDescriptor y.desc = some meth.sig)) = true) : (Jvm.Cond.code y bytes mx rt).before a s = true := by
  simp only [Bool.and_eq_true, beq_iff_eq, Bool.not_eq_true', decide_eq_true_eq] at h5
  obtain ⟨⟨⟨⟨⟨g1, g2⟩, g3⟩, g4⟩, g5⟩, g6⟩ := h5
  simp [Cond.before, Cond.holds, Cond.value, h1, h2, h3, h4, g1, g2, g3, g4, g5, g6]
def isCode : Jvm.Cond → Bool
  | .code _ _ _ _ => true
  | _ => false
theorem all_split {L : List Jvm.Cond} {P : Jvm.Cond → Bool} (h1 : L.all (fun c => isCode c || P c) = true) (h2 : ∀ c ∈ L.filter isCode, P c = true) : L.all P = true := by
  refine List.all_eq_true.mpr fun c hc => ?_
  have h := List.all_eq_true.mp h1 c hc
  rcases Bool.eq_false_or_eq_true (isCode c) with hi | hi
  · exact h2 c (List.mem_filter.mpr ⟨hc, hi⟩)
  · simpa [hi] using h
set_option maxRecDepth 65536 in
theorem w_c0 : (Jvm.Cond.code x code maxLocals ret).before args0 about1 = true := code_word (m := ⟨1, 3⟩) (meth := k1m3) (c := k1c3) (by decide +kernel) rfl rfl rfl (by decide +kernel)
set_option maxRecDepth 65536 in
theorem w_c1 : (Jvm.Cond.code ({ cls := "com/example/firstfail/firstfail/formats/PlainTextCheckedTestIdPinLaw", name := "ch", desc := "(I)C" } : Jvm.MethodName) method_2_code (1 : Nat) (Option.some Jvm.ClassFile.FieldType.char)).before args0 about1 = true := code_word (m := ⟨1, 1⟩) (meth := k1m1) (c := k1c1) (by decide +kernel) rfl rfl rfl (by decide +kernel)
set_option maxRecDepth 65536 in
theorem w_c2 : (Jvm.Cond.code ({ cls := "java/lang/String", name := "<init>", desc := "([C)V" } : Jvm.MethodName) jdk_42_method_3_code (2 : Nat) (Option.none : Option Jvm.ClassFile.FieldType)).before args0 about1 = true := code_word (m := ⟨7, 1⟩) (meth := k7m1) (c := k7c1) (by decide +kernel) rfl rfl rfl (by decide +kernel)
set_option maxRecDepth 65536 in
theorem w_c3 : (Jvm.Cond.code ({ cls := "java/lang/String", name := "<init>", desc := "([CIILjava/lang/Void;)V" } : Jvm.MethodName) jdk_42_method_149_code (6 : Nat) (Option.none : Option Jvm.ClassFile.FieldType)).before args0 about1 = true := code_word (m := ⟨7, 7⟩) (meth := k7m7) (c := k7c7) (by decide +kernel) rfl rfl rfl (by decide +kernel)
set_option maxRecDepth 65536 in
theorem w_c4 : (Jvm.Cond.code ({ cls := "java/lang/Object", name := "<init>", desc := "()V" } : Jvm.MethodName) object_method_1_code (1 : Nat) (Option.none : Option Jvm.ClassFile.FieldType)).before args0 about1 = true := code_word (m := ⟨0, 0⟩) (meth := k0m0) (c := k0c0) (by decide +kernel) rfl rfl rfl (by decide +kernel)
set_option maxRecDepth 65536 in
theorem w_c5 : (Jvm.Cond.code ({ cls := "java/lang/StringUTF16", name := "compress", desc := "([CII)[B" } : Jvm.MethodName) jdk_52_method_16_code (6 : Nat) (Option.some (Jvm.ClassFile.FieldType.array Jvm.ClassFile.FieldType.byte))).before args0 about1 = true := code_word (m := ⟨8, 2⟩) (meth := k8m2) (c := k8c2) (by decide +kernel) rfl rfl rfl (by decide +kernel)
set_option maxRecDepth 65536 in
theorem w_c6 : (Jvm.Cond.code ({ cls := "java/lang/StringUTF16", name := "compress", desc := "([CI[BII)I" } : Jvm.MethodName) jdk_52_method_21_code (7 : Nat) (Option.some Jvm.ClassFile.FieldType.int)).before args0 about1 = true := code_word (m := ⟨8, 3⟩) (meth := k8m3) (c := k8c3) (by decide +kernel) rfl rfl rfl (by decide +kernel)
set_option maxRecDepth 65536 in
theorem w_c7 : (Jvm.Cond.code ({ cls := "java/lang/StringUTF16", name := "coderFromArrayLen", desc := "([BI)B" } : Jvm.MethodName) jdk_52_method_15_code (2 : Nat) (Option.some Jvm.ClassFile.FieldType.byte)).before args0 about1 = true := code_word (m := ⟨8, 1⟩) (meth := k8m1) (c := k8c1) (by decide +kernel) rfl rfl rfl (by decide +kernel)
set_option maxRecDepth 65536 in
theorem w_c8 : (Jvm.Cond.code ({ cls := "com/example/firstfail/firstfail/formats/PlainTextCheckedTestIdPinLaw", name := "bad", desc := "(C)Z" } : Jvm.MethodName) method_3_code (1 : Nat) (Option.some Jvm.ClassFile.FieldType.boolean)).before args0 about1 = true := code_word (m := ⟨1, 2⟩) (meth := k1m2) (c := k1c2) (by decide +kernel) rfl rfl rfl (by decide +kernel)
set_option maxRecDepth 65536 in
theorem w_c9 : (Jvm.Cond.code ({ cls := "com/example/firstfail/firstfail/formats/PlainText", name := "checkedTestId", desc := "(Ljava/lang/String;)Ljava/lang/String;" } : Jvm.MethodName) prog_18_method_15_code (1 : Nat) (Option.some (Jvm.ClassFile.FieldType.object "java/lang/String"))).before args0 about1 = true := code_word (m := ⟨9, 3⟩) (meth := k9m3) (c := k9c3) (by decide +kernel) rfl rfl rfl (by decide +kernel)
set_option maxRecDepth 65536 in
theorem w_c10 : (Jvm.Cond.code ({ cls := "com/example/firstfail/firstfail/formats/PlainText", name := "isBlank", desc := "(Ljava/lang/String;)Z" } : Jvm.MethodName) prog_18_method_12_code (2 : Nat) (Option.some Jvm.ClassFile.FieldType.boolean)).before args0 about1 = true := code_word (m := ⟨9, 1⟩) (meth := k9m1) (c := k9c1) (by decide +kernel) rfl rfl rfl (by decide +kernel)
set_option maxRecDepth 65536 in
theorem w_c11 : (Jvm.Cond.code ({ cls := "java/lang/String", name := "length", desc := "()I" } : Jvm.MethodName) jdk_42_method_54_code (1 : Nat) (Option.some Jvm.ClassFile.FieldType.int)).before args0 about1 = true := code_word (m := ⟨7, 2⟩) (meth := k7m2) (c := k7c2) (by decide +kernel) rfl rfl rfl (by decide +kernel)
set_option maxRecDepth 65536 in
theorem w_c12 : (Jvm.Cond.code ({ cls := "java/lang/String", name := "coder", desc := "()B" } : Jvm.MethodName) jdk_42_method_152_code (1 : Nat) (Option.some Jvm.ClassFile.FieldType.byte)).before args0 about1 = true := code_word (m := ⟨7, 8⟩) (meth := k7m8) (c := k7c8) (by decide +kernel) rfl rfl rfl (by decide +kernel)
set_option maxRecDepth 65536 in
theorem w_c13 : (Jvm.Cond.code ({ cls := "java/lang/String", name := "charAt", desc := "(I)C" } : Jvm.MethodName) jdk_42_method_56_code (2 : Nat) (Option.some Jvm.ClassFile.FieldType.char)).before args0 about1 = true := code_word (m := ⟨7, 3⟩) (meth := k7m3) (c := k7c3) (by decide +kernel) rfl rfl rfl (by decide +kernel)
set_option maxRecDepth 65536 in
theorem w_c14 : (Jvm.Cond.code ({ cls := "java/lang/String", name := "isLatin1", desc := "()Z" } : Jvm.MethodName) jdk_42_method_154_code (1 : Nat) (Option.some Jvm.ClassFile.FieldType.boolean)).before args0 about1 = true := code_word (m := ⟨7, 9⟩) (meth := k7m9) (c := k7c9) (by decide +kernel) rfl rfl rfl (by decide +kernel)
set_option maxRecDepth 65536 in
theorem w_c15 : (Jvm.Cond.code ({ cls := "java/lang/StringLatin1", name := "charAt", desc := "([BI)C" } : Jvm.MethodName) jdk_43_method_2_code (2 : Nat) (Option.some Jvm.ClassFile.FieldType.char)).before args0 about1 = true := code_word (m := ⟨10, 1⟩) (meth := k10m1) (c := k10c1) (by decide +kernel) rfl rfl rfl (by decide +kernel)
set_option maxRecDepth 65536 in
theorem w_c16 : (Jvm.Cond.code ({ cls := "java/lang/String", name := "checkIndex", desc := "(II)V" } : Jvm.MethodName) jdk_42_method_155_code (2 : Nat) (Option.none : Option Jvm.ClassFile.FieldType)).before args0 about1 = true := code_word (m := ⟨7, 10⟩) (meth := k7m10) (c := k7c10) (by decide +kernel) rfl rfl rfl (by decide +kernel)
set_option maxRecDepth 65536 in
theorem w_c17 : (Jvm.Cond.code ({ cls := "jdk/internal/util/Preconditions", name := "checkIndex", desc := "(IILjava/util/function/BiFunction;)I" } : Jvm.MethodName) jdk_41_method_11_code (3 : Nat) (Option.some Jvm.ClassFile.FieldType.int)).before args0 about1 = true := code_word (m := ⟨11, 1⟩) (meth := k11m1) (c := k11c1) (by decide +kernel) rfl rfl rfl (by decide +kernel)
set_option maxRecDepth 65536 in
theorem w_c18 : (Jvm.Cond.code ({ cls := "com/example/firstfail/firstfail/formats/PlainText", name := "isSpaceOrTab", desc := "(C)Z" } : Jvm.MethodName) prog_18_method_13_code (1 : Nat) (Option.some Jvm.ClassFile.FieldType.boolean)).before args0 about1 = true := code_word (m := ⟨9, 2⟩) (meth := k9m2) (c := k9c2) (by decide +kernel) rfl rfl rfl (by decide +kernel)
set_option maxRecDepth 65536 in
theorem w_c19 : (Jvm.Cond.code ({ cls := "java/lang/String", name := "indexOf", desc := "(I)I" } : Jvm.MethodName) jdk_42_method_79_code (2 : Nat) (Option.some Jvm.ClassFile.FieldType.int)).before args0 about1 = true := code_word (m := ⟨7, 5⟩) (meth := k7m5) (c := k7c5) (by decide +kernel) rfl rfl rfl (by decide +kernel)
set_option maxRecDepth 65536 in
theorem w_c20 : (Jvm.Cond.code ({ cls := "java/lang/String", name := "indexOf", desc := "(II)I" } : Jvm.MethodName) jdk_42_method_80_code (3 : Nat) (Option.some Jvm.ClassFile.FieldType.int)).before args0 about1 = true := code_word (m := ⟨7, 6⟩) (meth := k7m6) (c := k7c6) (by decide +kernel) rfl rfl rfl (by decide +kernel)
set_option maxRecDepth 65536 in
theorem w_c21 : (Jvm.Cond.code ({ cls := "java/lang/StringLatin1", name := "indexOf", desc := "([BIII)I" } : Jvm.MethodName) jdk_43_method_22_code (4 : Nat) (Option.some Jvm.ClassFile.FieldType.int)).before args0 about1 = true := code_word (m := ⟨10, 3⟩) (meth := k10m3) (c := k10c3) (by decide +kernel) rfl rfl rfl (by decide +kernel)
set_option maxRecDepth 65536 in
theorem w_c22 : (Jvm.Cond.code ({ cls := "java/lang/StringLatin1", name := "canEncode", desc := "(I)Z" } : Jvm.MethodName) jdk_43_method_4_code (1 : Nat) (Option.some Jvm.ClassFile.FieldType.boolean)).before args0 about1 = true := code_word (m := ⟨10, 2⟩) (meth := k10m2) (c := k10c2) (by decide +kernel) rfl rfl rfl (by decide +kernel)
set_option maxRecDepth 65536 in
theorem w_c23 : (Jvm.Cond.code ({ cls := "java/lang/Math", name := "max", desc := "(II)I" } : Jvm.MethodName) jdk_29_method_65_code (2 : Nat) (Option.some Jvm.ClassFile.FieldType.int)).before args0 about1 = true := code_word (m := ⟨12, 1⟩) (meth := k12m1) (c := k12c1) (by decide +kernel) rfl rfl rfl (by decide +kernel)
set_option maxRecDepth 65536 in
theorem w_c24 : (Jvm.Cond.code ({ cls := "java/lang/Math", name := "min", desc := "(II)I" } : Jvm.MethodName) jdk_29_method_69_code (2 : Nat) (Option.some Jvm.ClassFile.FieldType.int)).before args0 about1 = true := code_word (m := ⟨12, 2⟩) (meth := k12m2) (c := k12c2) (by decide +kernel) rfl rfl rfl (by decide +kernel)
set_option maxRecDepth 65536 in
theorem w_c25 : (Jvm.Cond.code ({ cls := "java/lang/StringLatin1", name := "indexOfChar", desc := "([BIII)I" } : Jvm.MethodName) jdk_43_method_23_code (6 : Nat) (Option.some Jvm.ClassFile.FieldType.int)).before args0 about1 = true := code_word (m := ⟨10, 4⟩) (meth := k10m4) (c := k10c4) (by decide +kernel) rfl rfl rfl (by decide +kernel)
set_option maxRecDepth 65536 in
theorem w_c26 : (Jvm.Cond.code ({ cls := "java/lang/String", name := "equals", desc := "(Ljava/lang/Object;)Z" } : Jvm.MethodName) jdk_42_method_66_code (3 : Nat) (Option.some Jvm.ClassFile.FieldType.boolean)).before args0 about1 = true := code_word (m := ⟨7, 4⟩) (meth := k7m4) (c := k7c4) (by decide +kernel) rfl rfl rfl (by decide +kernel)
def codes1 : List Jvm.Cond := [Jvm.Cond.code x code maxLocals ret, Jvm.Cond.code ({ cls := "com/example/firstfail/firstfail/formats/PlainTextCheckedTestIdPinLaw", name := "ch", desc := "(I)C" } : Jvm.MethodName) method_2_code (1 : Nat) (Option.some Jvm.ClassFile.FieldType.char), Jvm.Cond.code ({ cls := "java/lang/String", name := "<init>", desc := "([C)V" } : Jvm.MethodName) jdk_42_method_3_code (2 : Nat) (Option.none : Option Jvm.ClassFile.FieldType), Jvm.Cond.code ({ cls := "java/lang/String", name := "<init>", desc := "([CIILjava/lang/Void;)V" } : Jvm.MethodName) jdk_42_method_149_code (6 : Nat) (Option.none : Option Jvm.ClassFile.FieldType), Jvm.Cond.code ({ cls := "java/lang/Object", name := "<init>", desc := "()V" } : Jvm.MethodName) object_method_1_code (1 : Nat) (Option.none : Option Jvm.ClassFile.FieldType), Jvm.Cond.code ({ cls := "java/lang/StringUTF16", name := "compress", desc := "([CII)[B" } : Jvm.MethodName) jdk_52_method_16_code (6 : Nat) (Option.some (Jvm.ClassFile.FieldType.array Jvm.ClassFile.FieldType.byte)), Jvm.Cond.code ({ cls := "java/lang/StringUTF16", name := "compress", desc := "([CI[BII)I" } : Jvm.MethodName) jdk_52_method_21_code (7 : Nat) (Option.some Jvm.ClassFile.FieldType.int), Jvm.Cond.code ({ cls := "java/lang/StringUTF16", name := "coderFromArrayLen", desc := "([BI)B" } : Jvm.MethodName) jdk_52_method_15_code (2 : Nat) (Option.some Jvm.ClassFile.FieldType.byte), Jvm.Cond.code ({ cls := "com/example/firstfail/firstfail/formats/PlainTextCheckedTestIdPinLaw", name := "bad", desc := "(C)Z" } : Jvm.MethodName) method_3_code (1 : Nat) (Option.some Jvm.ClassFile.FieldType.boolean), Jvm.Cond.code ({ cls := "com/example/firstfail/firstfail/formats/PlainText", name := "checkedTestId", desc := "(Ljava/lang/String;)Ljava/lang/String;" } : Jvm.MethodName) prog_18_method_15_code (1 : Nat) (Option.some (Jvm.ClassFile.FieldType.object "java/lang/String")), Jvm.Cond.code ({ cls := "com/example/firstfail/firstfail/formats/PlainText", name := "isBlank", desc := "(Ljava/lang/String;)Z" } : Jvm.MethodName) prog_18_method_12_code (2 : Nat) (Option.some Jvm.ClassFile.FieldType.boolean), Jvm.Cond.code ({ cls := "java/lang/String", name := "length", desc := "()I" } : Jvm.MethodName) jdk_42_method_54_code (1 : Nat) (Option.some Jvm.ClassFile.FieldType.int), Jvm.Cond.code ({ cls := "java/lang/String", name := "coder", desc := "()B" } : Jvm.MethodName) jdk_42_method_152_code (1 : Nat) (Option.some Jvm.ClassFile.FieldType.byte), Jvm.Cond.code ({ cls := "java/lang/String", name := "charAt", desc := "(I)C" } : Jvm.MethodName) jdk_42_method_56_code (2 : Nat) (Option.some Jvm.ClassFile.FieldType.char), Jvm.Cond.code ({ cls := "java/lang/String", name := "isLatin1", desc := "()Z" } : Jvm.MethodName) jdk_42_method_154_code (1 : Nat) (Option.some Jvm.ClassFile.FieldType.boolean), Jvm.Cond.code ({ cls := "java/lang/StringLatin1", name := "charAt", desc := "([BI)C" } : Jvm.MethodName) jdk_43_method_2_code (2 : Nat) (Option.some Jvm.ClassFile.FieldType.char), Jvm.Cond.code ({ cls := "java/lang/String", name := "checkIndex", desc := "(II)V" } : Jvm.MethodName) jdk_42_method_155_code (2 : Nat) (Option.none : Option Jvm.ClassFile.FieldType), Jvm.Cond.code ({ cls := "jdk/internal/util/Preconditions", name := "checkIndex", desc := "(IILjava/util/function/BiFunction;)I" } : Jvm.MethodName) jdk_41_method_11_code (3 : Nat) (Option.some Jvm.ClassFile.FieldType.int), Jvm.Cond.code ({ cls := "com/example/firstfail/firstfail/formats/PlainText", name := "isSpaceOrTab", desc := "(C)Z" } : Jvm.MethodName) prog_18_method_13_code (1 : Nat) (Option.some Jvm.ClassFile.FieldType.boolean), Jvm.Cond.code ({ cls := "java/lang/String", name := "indexOf", desc := "(I)I" } : Jvm.MethodName) jdk_42_method_79_code (2 : Nat) (Option.some Jvm.ClassFile.FieldType.int), Jvm.Cond.code ({ cls := "java/lang/String", name := "indexOf", desc := "(II)I" } : Jvm.MethodName) jdk_42_method_80_code (3 : Nat) (Option.some Jvm.ClassFile.FieldType.int), Jvm.Cond.code ({ cls := "java/lang/StringLatin1", name := "indexOf", desc := "([BIII)I" } : Jvm.MethodName) jdk_43_method_22_code (4 : Nat) (Option.some Jvm.ClassFile.FieldType.int), Jvm.Cond.code ({ cls := "java/lang/StringLatin1", name := "canEncode", desc := "(I)Z" } : Jvm.MethodName) jdk_43_method_4_code (1 : Nat) (Option.some Jvm.ClassFile.FieldType.boolean), Jvm.Cond.code ({ cls := "java/lang/Math", name := "max", desc := "(II)I" } : Jvm.MethodName) jdk_29_method_65_code (2 : Nat) (Option.some Jvm.ClassFile.FieldType.int), Jvm.Cond.code ({ cls := "java/lang/Math", name := "min", desc := "(II)I" } : Jvm.MethodName) jdk_29_method_69_code (2 : Nat) (Option.some Jvm.ClassFile.FieldType.int), Jvm.Cond.code ({ cls := "java/lang/StringLatin1", name := "indexOfChar", desc := "([BIII)I" } : Jvm.MethodName) jdk_43_method_23_code (6 : Nat) (Option.some Jvm.ClassFile.FieldType.int), Jvm.Cond.code ({ cls := "java/lang/String", name := "equals", desc := "(Ljava/lang/Object;)Z" } : Jvm.MethodName) jdk_42_method_66_code (3 : Nat) (Option.some Jvm.ClassFile.FieldType.boolean)]
set_option maxRecDepth 65536 in
theorem codes_eq : words1.filter isCode = codes1 := rfl
theorem w_codes : ∀ c ∈ words1.filter isCode, c.before args0 about1 = true := by
  rw [codes_eq]
  intro c hc
  simp only [codes1, List.mem_cons, List.not_mem_nil, or_false] at hc
  rcases hc with rfl | rfl | rfl | rfl | rfl | rfl | rfl | rfl | rfl | rfl | rfl | rfl | rfl | rfl | rfl | rfl | rfl | rfl | rfl | rfl | rfl | rfl | rfl | rfl | rfl | rfl | rfl
  · exact w_c0
  · exact w_c1
  · exact w_c2
  · exact w_c3
  · exact w_c4
  · exact w_c5
  · exact w_c6
  · exact w_c7
  · exact w_c8
  · exact w_c9
  · exact w_c10
  · exact w_c11
  · exact w_c12
  · exact w_c13
  · exact w_c14
  · exact w_c15
  · exact w_c16
  · exact w_c17
  · exact w_c18
  · exact w_c19
  · exact w_c20
  · exact w_c21
  · exact w_c22
  · exact w_c23
  · exact w_c24
  · exact w_c25
  · exact w_c26
set_option maxRecDepth 65536 in
theorem w_t1 : (words1.take 24).all (fun c => isCode c || c.before args0 about1) = true := by decide +kernel
set_option maxRecDepth 65536 in
theorem w_t2 : ((words1.drop 24).take 24).all (fun c => isCode c || c.before args0 about1) = true := by decide +kernel
set_option maxRecDepth 65536 in
theorem w_t3 : (((words1.drop 24).drop 24).take 24).all (fun c => isCode c || c.before args0 about1) = true := by decide +kernel
set_option maxRecDepth 65536 in
theorem w_t4 : ((((words1.drop 24).drop 24).drop 24).take 24).all (fun c => isCode c || c.before args0 about1) = true := by decide +kernel
set_option maxRecDepth 65536 in
theorem w_t5 : ((((words1.drop 24).drop 24).drop 24).drop 24).all (fun c => isCode c || c.before args0 about1) = true := by decide +kernel
theorem w_tables : (allAtoms (Jvm.Cond.code x code maxLocals ret :: tables_1)).before args0 about1 = true := by
  rw [allAtoms_all]
  show words1.all (fun c => c.before args0 about1) = true
  refine all_split ?_ w_codes
  rw [← List.take_append_drop 24 words1, List.all_append, w_t1, ← List.take_append_drop 24 (words1.drop 24), List.all_append, w_t2, ← List.take_append_drop 24 ((words1.drop 24).drop 24), List.all_append, w_t3, ← List.take_append_drop 24 (((words1.drop 24).drop 24).drop 24), List.all_append, w_t4, w_t5]
  rfl
set_option maxRecDepth 65536 in
theorem w_rest : rest_1_c.before args0 about1 = true := by decide +kernel
set_option maxRecDepth 65536 in
theorem w_case : (Jvm.Cond.and given_1 narrow_1).before args0 about1 = true := by decide +kernel
theorem w_applies : (headSpec (Jvm.Cond.code x code maxLocals ret :: tables_1) room_1).applies x e0.platform about1 = true :=
  (Spec.applies_iff w_frames).mpr ⟨w_running, w_runnable, w_alone, w_named, w_hears, w_ripe, w_room, w_tables⟩
theorem atStart : AtStart classFile x code maxLocals ret World_1 tables_1 room_1 Calls_1 rest_1 Pre_1 launch0 p0 e0 about1 theMethod args0 below0 :=
  ⟨lists_1, trivial, launch0.admits_env _ _ _, launch0.least_env, fairChoices_fair.cas, fairChoices_fair.clock, w_frames, w_args, w_heap, w_applies, trivial, w_rest, w_case⟩
end start1
theorem witness_1 : WitnessClaimed_1 := ⟨start1.p0, start1.e0, start1.about1, start1.theMethod, start1.args0, start1.below0, start1.atStart⟩
end Jvm.Pilot.@@N@@
