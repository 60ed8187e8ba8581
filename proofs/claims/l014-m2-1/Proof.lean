import JvmDerived
import JvmDerived.Pilot.@@N@@Statement
import JvmDerived.Pilot.@@N@@Code
set_option linter.unusedVariables false
set_option linter.unusedSimpArgs false
namespace Jvm.OwnKit
open Sem ClassFile Op Lib Jvm.Stand Jvm.Free Jvm.LawKit Jvm.RoadKit
theorem irem_mod (x y : Int32) : x - x / y * y = x % y := by
  have hm : (x % y).toInt = x.toInt - x.toInt.tdiv y.toInt * y.toInt := by
    rw [Int32.toInt_mod, Int.tmod_def, Int.mul_comm]
  have hb := Int32.toInt_lt (x % y)
  have hl := Int32.le_toInt (x % y)
  have e : (x - x / y * y).toInt = (x % y).toInt.bmod (2 ^ 32) := by
    rw [hm, Int32.toInt_sub, Int32.toInt_mul, Int32.toInt_div, Int.sub_bmod_bmod, Int.sub_eq_add_neg, Int.sub_eq_add_neg]
    rw [← Int.add_bmod_bmod, ← Int.add_bmod_bmod (y := -(x.toInt.tdiv y.toInt * y.toInt))]
    congr 2
    rw [← Int.neg_mul, ← Int.neg_mul]
    rw [← Int.bmod_mul_bmod, Int.bmod_neg_bmod, Int.bmod_mul_bmod]
  apply Int32.toInt_inj.mp
  rw [e]
  exact Int.bmod_eq_of_le_mul_two (by omega) (by omega)
/-- what a body's end says -/
def Done (s : State) (below : List Frame) (Q : Option Value → Heap → List Loc → Prop) (C S : Nat) (t : State) (o : Outcome) : Prop :=
  t.status = .running ∧ Ended t below o ∧ ∃ v L, o = .returned v ∧ Q v t.heap L ∧ FrameEnd s o t L C S
/-- from here the run ends as asked -/
def Go (tb : Tables) (e : Env) (below : List Frame) (s : State) (Q : Option Value → Heap → List Loc → Prop) (C S : Nat) (A : State) : Prop :=
  ∃ t o, Steps tb e below A t ∧ Done s below Q C S t o
theorem Go.of {tb : Tables} {e : Env} {below : List Frame} {s : State} {Q : Option Value → Heap → List Loc → Prop} {C S : Nat} {A B : State}
    (g : ∀ t, Steps tb e below B t → Steps tb e below A t) (h : Go tb e below s Q C S B) : Go tb e below s Q C S A := by
  obtain ⟨t, o, h1, h2⟩ := h
  exact ⟨t, o, g t h1, h2⟩
theorem Go.push {tb : Tables} {e : Env} {below : List Frame} {s : State} {Q : Option Value → Heap → List Loc → Prop} {C S : Nat} {T : State} {m : MethodId} {pc pc' : Nat} {Ls : Array Slot} {v : Value} {st : List Value} (hp : pc = pc') (h : Go tb e below s Q C S (T.setTop (mkF m pc' Ls (v :: st)))) : Go tb e below s Q C S (T.setTop (mkF m pc Ls ((some v).toList ++ st))) := hp ▸ h
theorem Go.void {tb : Tables} {e : Env} {below : List Frame} {s : State} {Q : Option Value → Heap → List Loc → Prop} {C S : Nat} {T : State} {m : MethodId} {pc pc' : Nat} {Ls : Array Slot} {st : List Value} (hp : pc = pc') (h : Go tb e below s Q C S (T.setTop (mkF m pc' Ls st))) : Go tb e below s Q C S (T.setTop (mkF m pc Ls ((none : Option Value).toList ++ st))) := hp ▸ h
theorem Go.join {tb : Tables} {e : Env} {below : List Frame} {s : State} {Q : Option Value → Heap → List Loc → Prop} {C S : Nat} {A : State} {α : Type} {P : α → Prop} {F : α → State}
    (h1 : ∀ x, P x → Go tb e below s Q C S (F x)) (h2 : (∀ x, P x → Go tb e below s Q C S (F x)) → Go tb e below s Q C S A) : Go tb e below s Q C S A := h2 h1
theorem Go.loop {tb : Tables} {e : Env} {below : List Frame} {s : State} {Q : Option Value → Heap → List Loc → Prop} {C S : Nat} {α : Type} {P : Nat → α → Prop} {F : α → State}
    (h : ∀ k x, P k x → (∀ j y, j < k → P j y → Go tb e below s Q C S (F y)) → Go tb e below s Q C S (F x)) : ∀ k x, P k x → Go tb e below s Q C S (F x) := by
  intro k
  induction k using Nat.strongRecOn with
  | ind k ih => exact fun x hp => h k x hp fun j y hj hy => ih j hj y hy
section Ret
variable {p : Program} {l : Launch} {e : Env} {R : Room} {s : State} {m : MethodId} {args : Array Value} {below : List Frame} {meth : Method} {c : Code} {T : State} {locs : List Loc} {cells slots : Nat} {Q : Option Value → Heap → List Loc → Prop} {C S : Nat}
theorem Go.retV (X : Stand p l e R s m args below meth c T locs cells slots) (hx : p.tables.exec = Jvm.exec) (hlk : meth.locks = false) {pc : Nat} {Ls : Array Slot} {st : List Value} (hret : meth.sig.returnType = none)
    (hd : decode c.code pc = .ok (.return_, 1)) (hs : st = []) (hc : cells ≤ C) (hn : slots ≤ S) (hq : Q none T.heap locs) : Go p.tables e below s Q C S (T.setTop (mkF m pc Ls st)) := by
  subst hs
  obtain ⟨fs, hr, hrun, hended, hW, hsame⟩ := X.leave (v := none) (fun _ => rfl)
  exact ⟨_, _, X.returnOut hx hret hd hr, hrun, hended, _, _, rfl, hq, ⟨_, rfl⟩, hW, hsame.mono hc hn⟩
theorem Go.retW (X : Stand p l e R s m args below meth c T locs cells slots) (hx : p.tables.exec = Jvm.exec) (hlk : meth.locks = false) {pc : Nat} {Ls : Array Slot} {w : Value} {t : FieldType} {i : Instr} {rest : List Value}
    (hret : meth.sig.returnType = some t) (hn : narrow t w = w)
    (hi : (i = .ireturn ∧ (t = .int ∨ t = .boolean ∨ t = .byte ∨ t = .char ∨ t = .short) ∧ ∃ z, w = .int z) ∨ (i = .lreturn ∧ t = .long ∧ ∃ z, w = .long z) ∨ (i = .dreturn ∧ t = .double ∧ ∃ z, w = .double z) ∨ (i = .freturn ∧ t = .float ∧ ∃ z, w = .float z) ∨ (i = .areturn ∧ t.isReference = true ∧ w.isRef = true))
    (hd : decode c.code pc = .ok (i, 1)) (hc : cells ≤ C) (hsl : slots ≤ S) (hq : Q (some w) T.heap locs) : Go p.tables e below s Q C S (T.setTop (mkF m pc Ls (w :: rest))) := by
  obtain ⟨fs, hr, hrun, hended, hW, hsame⟩ := X.leave (v := some w) (fun h => by rw [hret] at h; cases h)
  exact ⟨_, _, retOut X hx hret hn hi hd hr, hrun, hended, _, _, rfl, hq, ⟨_, rfl⟩, hW, hsame.mono hc hsl⟩
theorem Go.retI (X : Stand p l e R s m args below meth c T locs cells slots) (hx : p.tables.exec = Jvm.exec) (hlk : meth.locks = false) {pc : Nat} {Ls : Array Slot} {z : Int32} {rest : List Value}
    (hret : meth.sig.returnType = some .int) (hd : decode c.code pc = .ok (.ireturn, 1)) (hc : cells ≤ C) (hsl : slots ≤ S) (hq : Q (some (.int z)) T.heap locs) : Go p.tables e below s Q C S (T.setTop (mkF m pc Ls (.int z :: rest))) :=
  Go.retW X hx hlk hret rfl (Or.inl ⟨rfl, Or.inl rfl, _, rfl⟩) hd hc hsl hq
theorem Go.retZ (X : Stand p l e R s m args below meth c T locs cells slots) (hx : p.tables.exec = Jvm.exec) (hlk : meth.locks = false) {pc : Nat} {Ls : Array Slot} {z : Int32} {rest : List Value} {t : FieldType}
    (hret : meth.sig.returnType = some t) (ht : t = .boolean ∨ t = .byte ∨ t = .char ∨ t = .short) (hd : decode c.code pc = .ok (.ireturn, 1)) (hc : cells ≤ C) (hsl : slots ≤ S) (hq : Q (some (.int (nar t z))) T.heap locs) : Go p.tables e below s Q C S (T.setTop (mkF m pc Ls (.int z :: rest))) := by
  obtain ⟨fs, hr, hrun, hended, hW, hsame⟩ := X.leave (v := some (.int (nar t z))) (fun h => by rw [hret] at h; cases h)
  exact ⟨_, _, retN X hx hret ht hd hr, hrun, hended, _, _, rfl, hq, ⟨_, rfl⟩, hW, hsame.mono hc hsl⟩
theorem Go.retL (X : Stand p l e R s m args below meth c T locs cells slots) (hx : p.tables.exec = Jvm.exec) (hlk : meth.locks = false) {pc : Nat} {Ls : Array Slot} {z : Int64} {rest : List Value}
    (hret : meth.sig.returnType = some .long) (hd : decode c.code pc = .ok (.lreturn, 1)) (hc : cells ≤ C) (hsl : slots ≤ S) (hq : Q (some (.long z)) T.heap locs) : Go p.tables e below s Q C S (T.setTop (mkF m pc Ls (.long z :: rest))) :=
  Go.retW X hx hlk hret rfl (Or.inr (Or.inl ⟨rfl, rfl, _, rfl⟩)) hd hc hsl hq
theorem Go.retA (X : Stand p l e R s m args below meth c T locs cells slots) (hx : p.tables.exec = Jvm.exec) (hlk : meth.locks = false) {pc : Nat} {Ls : Array Slot} {w : Value} {rest : List Value} {t : FieldType}
    (hret : meth.sig.returnType = some t) (ht : t.isReference = true) (hw : w.isRef = true) (hd : decode c.code pc = .ok (.areturn, 1)) (hc : cells ≤ C) (hsl : slots ≤ S) (hq : Q (some w) T.heap locs) : Go p.tables e below s Q C S (T.setTop (mkF m pc Ls (w :: rest))) :=
  Go.retW X hx hlk hret (by cases t <;> first | rfl | (simp [FieldType.isReference] at ht)) (Or.inr (Or.inr (Or.inr (Or.inr ⟨rfl, ht, hw⟩)))) hd hc hsl hq
end Ret
/-- the contract of a body, by its walk -/
theorem meet {l : Launch} {Z : State} {y : MethodName} {bytes : ByteArray} {maxL : Nat} {ret : Option FieldType} {ws : List Cond} {rm : Room} {as : Array Value} {Ls : Array Slot} {h0 : Heap} {Q : Option Value → Heap → List Loc → Prop}
    (hpl : plainFor y = true) (ef : ∀ m, entryFrame m as maxL = mkF m 0 Ls [])
    (body : ∀ (p : Program) (e : Env) (s : State) (m : MethodId) (below : List Frame) (meth : Method) (c : Code) (T : State), p.tables.exec = Jvm.exec → c.code = bytes → c.maxLocals = maxL → Z.Warmed39 s.vm → s.vm.findClass y.cls = some m.cls → meth.name = y.name →
      meth.sig.returnType = ret → meth.locks = false → Stand p l e rm s m as below meth c T [] 0 0 → T.heap = h0 → Go p.tables e below s Q rm.cells rm.slots (T.setTop (mkF m 0 Ls []))) :
    MetFree l y (head1 (Cond.code y bytes maxL ret :: ws) rm) (fun a U => a = as ∧ Z.Warmed39 U.vm ∧ U.heap = h0) (fun _ _ _ _ _ => True) (fun _ U o U' => ∃ v L, o = .returned v ∧ Q v U'.heap L ∧ FrameEnd U o U' L rm.cells rm.slots) := by
  refine MetFree.of_bodySF hpl hisR ?_
  intro p e s m args below meth c s₁ Bd hml0 hP hK
  obtain ⟨rfl, hZ, hh⟩ := hP
  obtain ⟨t, o, h1, h2, h3, h4⟩ := body p e s m below meth c s₁ Bd.exec Bd.bytes hml0 hZ (findClass_of_methodNamed Bd.named) (name_of_methodNamed Bd.named Bd.method).1 Bd.returns Bd.notSynchronized (Stand.of_body Bd) (by rw [← hh, Bd.state]; rfl)
  exact ⟨t, o, castTop (ef m) h1, h2, h3, h4⟩
/-- what a callee's contract says -/
abbrev Con (l : Launch) (Z : State) (y : MethodName) (bytes : ByteArray) (maxL : Nat) (ret : Option FieldType) (rm : Room) (as : Array Value) (h0 : Heap) (Q : Option Value → Heap → List Loc → Prop) : Prop :=
  MetFree l y (head1 [Cond.code y bytes maxL ret] rm) (fun a U => a = as ∧ Z.Warmed39 U.vm ∧ U.heap = h0) (fun _ _ _ _ _ => True) (fun _ U o U' => ∃ v L, o = .returned v ∧ Q v U'.heap L ∧ FrameEnd U o U' L rm.cells rm.slots)
section Call
variable {p : Program} {l : Launch} {e : Env} {R : Room} {s : State} {m : MethodId} {args : Array Value} {below : List Frame} {meth : Method} {c : Code} {T : State} {locs : List Loc} {cells slots : Nat} {Q : Option Value → Heap → List Loc → Prop} {C S : Nat} {Z : State} {a0 : Array Value} {h : Heap}
theorem Go.callS (X : Stand p l e R s m args below meth c T locs cells slots) (hx : p.tables.exec = Jvm.exec) (hZ : Z.Warmed39 s.vm) {own : String} {index : Nat} {y : MethodName} {bytes : ByteArray} {maxL : Nat} {ret : Option FieldType} {rm : Room} {Q' : Option Value → Heap → List Loc → Prop}
    (hown : s.vm.findClass own = some m.cls) (w1 : (Cond.methodLink own index y).before a0 Z = true) (w2 : (Cond.static y).before a0 Z = true) (w3 : (Cond.initialized y.cls).before a0 Z = true)
    (w4 : (Cond.code y bytes maxL ret).before a0 Z = true) (hy : y.cls ≠ "java/lang/invoke/MethodHandle" ∧ y.cls ≠ "java/lang/invoke/VarHandle")
    (eT : T.heap = h) {pc : Nat} {Ls : Array Slot} {argsL rest st : List Value} {W : Nat} {ps : List FieldType} (hM : Con l Z y bytes maxL ret rm argsL.toArray h Q') (hd : decode c.code pc = .ok (.invokestatic index, 3))
    (hsz : Ls.size = c.maxLocals) (hst : st = argsL.reverse ++ rest) (hpd : parseMethodDescriptor y.desc = some ⟨ps, ret⟩) (hlen : argsL.length = ps.length) (hW : (rest.map fun v => v.category).sum = W)
    (hf : rm.frames + 1 ≤ R.frames) (hl : W + (maxL + 11) + rm.locals ≤ R.locals) (hc : cells + rm.cells ≤ R.cells) (hn : slots + rm.slots ≤ R.slots)
    (k : ∀ (v : Option Value) (T' : State) (L' : List Loc), Stand p l e R s m args below meth c T' (locs ++ L') (cells + rm.cells) (slots + rm.slots) → Q' v T'.heap L' → Go p.tables e below s Q C S (T'.setTop (mkF m (pc + 3) Ls (v.toList ++ rest)))) :
    Go p.tables e below s Q C S (T.setTop (mkF m pc Ls st)) := by
  obtain ⟨v, _, ⟨T', L', kc, kn⟩, -, X', ⟨Lc, hQ, l3, y3, z3⟩, st⟩ := Jvm.LawKit.callS X hx hown (mvT hZ w1) (mvT hZ w2) (mvT hZ w3) (mvT hZ w4) hy (backOf (W := W) hM hZ w4 w3 hf hl) (g := mkF m pc Ls st) rfl hsz (argsL := argsL) (rest := rest) (lenOf hpd hlen) hst (by show 2 * 0 + _ ≤ _; rw [hW]; omega) hd (fun _ _ => ⟨rfl, eT, hc, hn⟩)
  dsimp only [Pt.U, Pt.locs, Pt.cells, Pt.slots] at X' l3 y3 z3 st hQ
  subst l3 y3 z3
  exact Go.of st (k v T' Lc X' hQ)
theorem Go.callI (X : Stand p l e R s m args below meth c T locs cells slots) (hx : p.tables.exec = Jvm.exec) (hZ : Z.Warmed39 s.vm) {own : String} {index : Nat} {y : MethodName} {bytes : ByteArray} {maxL : Nat} {rm : Room} {Q' : Option Value → Heap → List Loc → Prop}
    (hown : s.vm.findClass own = some m.cls) (hy1 : y.name = "<init>") (w1 : (Cond.methodLink own index y).before a0 Z = true) (w2 : (Cond.instanceMethod y).before a0 Z = true) (w3 : (Cond.initialized y.cls).before a0 Z = true)
    (w4 : (Cond.code y bytes maxL none).before a0 Z = true) (hy : y.cls ≠ "java/lang/invoke/MethodHandle" ∧ y.cls ≠ "java/lang/invoke/VarHandle")
    (eT : T.heap = h) {pc : Nat} {Ls : Array Slot} {a : Addr} {argsL rest st : List Value} {W : Nat} {ps : List FieldType} (hM : Con l Z y bytes maxL none rm (.ref a :: argsL).toArray h Q') (hd : decode c.code pc = .ok (.invokespecial index, 3))
    (hsz : Ls.size = c.maxLocals) (hst : st = argsL.reverse ++ .ref a :: rest) (hpd : parseMethodDescriptor y.desc = some ⟨ps, none⟩) (hlen : argsL.length = ps.length) (hW : (rest.map fun v => v.category).sum = W)
    (hf : rm.frames + 1 ≤ R.frames) (hl : W + (maxL + 11) + rm.locals ≤ R.locals) (hc : cells + rm.cells ≤ R.cells) (hn : slots + rm.slots ≤ R.slots)
    (k : ∀ (v : Option Value) (T' : State) (L' : List Loc), Stand p l e R s m args below meth c T' (locs ++ L') (cells + rm.cells) (slots + rm.slots) → Q' v T'.heap L' → Go p.tables e below s Q C S (T'.setTop (mkF m (pc + 3) Ls (v.toList ++ rest)))) :
    Go p.tables e below s Q C S (T.setTop (mkF m pc Ls st)) := by
  obtain ⟨v, _, ⟨T', L', kc, kn⟩, -, X', ⟨Lc, hQ, l3, y3, z3⟩, st⟩ := X.specialBack hx hy1 hown (mvT hZ w1) (mvT hZ w2) (mvT hZ w4) hy (backOf (W := W) hM hZ w4 w3 hf hl) (g := mkF m pc Ls st) rfl hsz (Steps.refl _) (a := a) (argsL := argsL) (rest := rest) (lenOf hpd hlen) hst (by show 2 * 0 + _ ≤ _; rw [hW]; omega) hd (fun _ _ => ⟨rfl, eT, hc, hn⟩)
  dsimp only [Pt.U, Pt.locs, Pt.cells, Pt.slots] at X' l3 y3 z3 st hQ
  subst l3 y3 z3
  exact Go.of (fun _ q => st.trans q) (k v T' Lc X' hQ)
theorem Go.callV (X : Stand p l e R s m args below meth c T locs cells slots) (hx : p.tables.exec = Jvm.exec) (hZ : Z.Warmed39 s.vm) {own K : String} {index : Nat} {y z : MethodName} {bytes : ByteArray} {maxL : Nat} {ret : Option FieldType} {rm : Room} {Q' : Option Value → Heap → List Loc → Prop}
    (hown : s.vm.findClass own = some m.cls) (w1 : (Cond.methodLink own index y).before a0 Z = true) (w2 : (Cond.declares y).before a0 Z = true) (nf : NotFace s y) (w5 : (Cond.selects K y z).before a0 Z = true) (w6 : (Cond.instanceMethod z).before a0 Z = true) (w3 : (Cond.initialized z.cls).before a0 Z = true)
    (w4 : (Cond.code z bytes maxL ret).before a0 Z = true) (hy : y.cls ≠ "java/lang/invoke/MethodHandle" ∧ y.cls ≠ "java/lang/invoke/VarHandle")
    (eT : T.heap = h) {pc : Nat} {Ls : Array Slot} {a : Addr} {argsL rest st : List Value} {W : Nat} {ps : List FieldType} {rt : Option FieldType} (E : Exa Z h a K) (hM : Con l Z z bytes maxL ret rm (.ref a :: argsL).toArray h Q') (hd : decode c.code pc = .ok (.invokevirtual index, 3))
    (hsz : Ls.size = c.maxLocals) (hst : st = argsL.reverse ++ .ref a :: rest) (hpd : parseMethodDescriptor y.desc = some ⟨ps, rt⟩) (hlen : argsL.length = ps.length) (hW : (rest.map fun v => v.category).sum = W)
    (hf : rm.frames + 1 ≤ R.frames) (hl : W + (maxL + 11) + rm.locals ≤ R.locals) (hc : cells + rm.cells ≤ R.cells) (hn : slots + rm.slots ≤ R.slots)
    (k : ∀ (v : Option Value) (T' : State) (L' : List Loc), Stand p l e R s m args below meth c T' (locs ++ L') (cells + rm.cells) (slots + rm.slots) → Q' v T'.heap L' → Go p.tables e below s Q C S (T'.setTop (mkF m (pc + 3) Ls (v.toList ++ rest)))) :
    Go p.tables e below s Q C S (T.setTop (mkF m pc Ls st)) := by
  obtain ⟨cq, kq, qa, qb, qc⟩ := isOf hZ eT E
  obtain ⟨v, _, ⟨T', L', kc, kn⟩, -, X', ⟨Lc, hQ, l3, y3, z3⟩, st⟩ := X.virtualBack hx (y := y) (z := z) hown (mvT hZ w1) (mvT hZ w2) nf (mvT hZ w5) (mvT hZ w6) hy (backOf (W := W) hM hZ w4 w3 hf hl) qa qc (g := mkF m pc Ls st) rfl hsz (Steps.refl _) (argsL := argsL) (rest := rest) (lenOf hpd hlen) hst (by show 2 * 0 + _ ≤ _; rw [hW]; omega) hd (fun _ _ => ⟨rfl, eT, hc, hn⟩)
  dsimp only [Pt.U, Pt.locs, Pt.cells, Pt.slots] at X' l3 y3 z3 st hQ
  subst l3 y3 z3
  exact Go.of (fun _ q => st.trans q) (k v T' Lc X' hQ)
end Call
/-- an array of n places, place i holding f i -/
def ArF (Z : State) (h : Heap) (a : Addr) (ty : FieldType) (n : Nat) (f : Nat → Value) : Prop :=
  ∃ cl : Cell, Arr Z h a cl ty ∧ cl.slots.size = n ∧ n < 2 ^ 31 ∧ (∀ i, i < n → cl.slots[i]? = some (f i)) ∧ ∀ i, i < n → fits ty (f i) = true
def upV (f : Nat → Value) (j : Nat) (v : Value) (i : Nat) : Value := if i = j then v else f i
def upI (f : Nat → Int32) (j : Nat) (v : Int32) (i : Nat) : Int32 := if i = j then v else f i
def upJ (f : Nat → Int64) (j : Nat) (v : Int64) (i : Nat) : Int64 := if i = j then v else f i
def upD (f : Nat → UInt64) (j : Nat) (v : UInt64) (i : Nat) : UInt64 := if i = j then v else f i
section ArF
variable {Z : State} {h h' : Heap} {a b : Addr} {ty : FieldType} {n : Nat} {f : Nat → Value} {sl : Nat} {v : Value} {ws : List Addr}
theorem ArF.lt (F : ArF Z h a ty n f) : a < h.size := by obtain ⟨c, A, -⟩ := F; exact A.lt
theorem ArF.ext (F : ArF Z h a ty n f) (E : Ext h h') : ArF Z h' a ty n f := by obtain ⟨c, A, r⟩ := F; exact ⟨c, A.ext E, r⟩
theorem ArF.other (F : ArF Z h b ty n f) (W : Wr h h' a sl v) (q : b ≠ a) : ArF Z h' b ty n f := by obtain ⟨c, A, r⟩ := F; exact ⟨c, A.other W q, r⟩
theorem ArF.keep (F : ArF Z h a ty n f) (K : Keep h h' ws) (q : a ∉ ws) : ArF Z h' a ty n f := by obtain ⟨c, A, r⟩ := F; exact ⟨c, ⟨K.2.1 a c A.1 q, A.2⟩, r⟩
theorem ArF.len (F : ArF Z h a ty n f) : n < 2 ^ 31 := by obtain ⟨c, A, r1, r2, -⟩ := F; exact r2
theorem ArF.fit (F : ArF Z h a ty n f) {i : Nat} (hi : i < n) : fits ty (f i) = true := by obtain ⟨c, A, r1, r2, r3, r4⟩ := F; exact r4 i hi
theorem ArF.congr {g : Nat → Value} (F : ArF Z h a ty n f) (q : ∀ i, i < n → g i = f i) : ArF Z h a ty n g := by
  obtain ⟨c, A, r1, r2, r3, r4⟩ := F
  exact ⟨c, A, r1, r2, fun i hi => by rw [q i hi]; exact r3 i hi, fun i hi => by rw [q i hi]; exact r4 i hi⟩
theorem ArF.new {k : ClassId} {z : Int32} (A : Arr Z h a (newA k ty z) ty) (hn : ¬ z < 0) (hz : z.toNatClampNeg = n) : ArF Z h a ty n (fun _ => defaultValue ty) := by
  subst hz
  refine ⟨_, A, sz_new _ _ _, (back32 hn).2, fun i hi => ?_, fun i hi => by cases ty <;> rfl⟩
  simp [newA, hi]
theorem ArF.set {x : Nat} (F : ArF Z h a ty n f) (hv : fits ty v = true) (W : Wr h h' a x v) : ArF Z h' a ty n (upV f x v) := by
  obtain ⟨c, A, r1, r2, r3, r4⟩ := F
  refine ⟨_, A.same W, by simp [Cell.setSlot, r1], r2, fun i hi => ?_, fun i hi => ?_⟩
  · by_cases e : i = x
    · subst e; simp [upV, Cell.setSlot, r1, hi]
    · simp only [upV, e, if_false, Cell.setSlot]
      rw [Array.getElem?_setIfInBounds_ne (Ne.symm e)]; exact r3 i hi
  · by_cases e : i = x
    · simp [upV, e, hv]
    · simp only [upV, e, if_false]; exact r4 i hi
theorem ArF.arv (F : ArF Z h a ty n f) (d : Value) : ∃ k, Arv Z h a k ty n.toInt32 ((List.range n).map f) d := by
  obtain ⟨c, A, r1, r2, r3, r4⟩ := F
  have hz : (n.toInt32).toInt = n := len_toInt r2
  have hz0 : (0 : Int32).toInt = 0 := rfl
  have hg : ∀ i, i < n → ((List.range n).map f).getD i d = f i := fun i hi => by simp [List.getD, hi]
  refine ⟨c.cls, c, A, rfl, ?_, by rw [Int32.lt_iff_toInt_lt]; omega, fun i hi => ?_, fun i hi => ?_⟩
  · rw [r1, Int32.toNatClampNeg]; omega
  · rw [r1] at hi; rw [hg i hi]; exact r3 i hi
  · rw [r1] at hi; rw [hg i hi]; exact r4 i hi
theorem arF_of_arv {k : ClassId} {z : Int32} {vs : List Value} {d : Value} (F : Arv Z h a k ty z vs d) : ArF Z h a ty z.toNatClampNeg (fun i => vs.getD i d) := by
  obtain ⟨c, A, -, r2, r3, r4, r5⟩ := F
  exact ⟨c, A, r2, (back32 r3).2, fun i hi => r4 i (by rw [r2]; exact hi), fun i hi => r5 i (by rw [r2]; exact hi)⟩
/-- n places of f from sp on, laid over f' from dp on -/
def cpF (f f' : Nat → Value) (sp dp nn : Nat) (i : Nat) : Value := if dp ≤ i ∧ i < dp + nn then f (sp + (i - dp)) else f' i
def cpT {α : Type} (f f' : Nat → α) (sp dp nn : Nat) (i : Nat) : α := if dp ≤ i ∧ i < dp + nn then f (sp + (i - dp)) else f' i
theorem ArF.cpI {g g' : Nat → Int32} {x y z : Nat} (F : ArF Z h a ty n (cpF (fun i => .int (g i)) (fun i => .int (g' i)) x y z)) : ArF Z h a ty n (fun i => .int (cpT g g' x y z i)) := F.congr fun i _ => by simp only [cpF, cpT]; split <;> rfl
theorem ArF.cpJ {g g' : Nat → Int64} {x y z : Nat} (F : ArF Z h a ty n (cpF (fun i => .long (g i)) (fun i => .long (g' i)) x y z)) : ArF Z h a ty n (fun i => .long (cpT g g' x y z i)) := F.congr fun i _ => by simp only [cpF, cpT]; split <;> rfl
theorem ArF.cpD {g g' : Nat → UInt64} {x y z : Nat} (F : ArF Z h a ty n (cpF (fun i => .double (g i)) (fun i => .double (g' i)) x y z)) : ArF Z h a ty n (fun i => .double (cpT g g' x y z i)) := F.congr fun i _ => by simp only [cpF, cpT]; split <;> rfl
theorem nat_idx {j : Int32} {k : Nat} (hj : j.toInt = (k : Int)) : j.toNatClampNeg = k := by simp only [Int32.toNatClampNeg]; omega
theorem in_idx {j : Int32} {k : Nat} {c : Cell} (hj : j.toInt = (k : Int)) (hk : k < n) (e : c.slots.size = n) : ¬ (j < 0 ∨ c.slots.size ≤ j.toNatClampNeg) := by
  rw [nat_idx hj, e, Int32.lt_iff_toInt_lt]
  have : (0 : Int32).toInt = 0 := rfl
  omega
end ArF
section ArrSteps
variable {p : Program} {l : Launch} {e : Env} {R : Room} {s : State} {m : MethodId} {args : Array Value} {below : List Frame} {meth : Method} {c : Code} {T : State} {locs : List Loc} {cells slots : Nat} {Q : Option Value → Heap → List Loc → Prop} {C S : Nat} {Z : State} {a0 : Array Value} {h : Heap} {a : Addr} {n : Nat} {j : Int32} {pc pc' : Nat} {Ls : Array Slot} {rest : List Value}
theorem Go.alen (X : Stand p l e R s m args below meth c T locs cells slots) (hx : p.tables.exec = Jvm.exec) (hZ : Z.Warmed39 s.vm) (eT : T.heap = h) {ty : FieldType} {f : Nat → Value} (F : ArF Z h a ty n f) {z : Int32} (hz : n.toInt32 = z) (hd : decode c.code pc = .ok (.arraylength, 1)) (hp : pc + 1 = pc')
    (kk : Go p.tables e below s Q C S (T.setTop (mkF m pc' Ls (.int z :: rest)))) : Go p.tables e below s Q C S (T.setTop (mkF m pc Ls (.ref a :: rest))) := by
  subst hp hz
  obtain ⟨cl, A, r1, r2, -⟩ := F
  subst r1
  exact Go.of (fun t q => X.arraylength hx (by rw [eT]; exact A.1) (State.isArrayOf_alike hZ.alike A.2.1) (g := mkF m pc Ls (.ref a :: rest)) rfl rfl hd t q) kk
theorem Go.baload (X : Stand p l e R s m args below meth c T locs cells slots) (hx : p.tables.exec = Jvm.exec) (hZ : Z.Warmed39 s.vm) (eT : T.heap = h) {f : Nat → Int32} (F : ArF Z h a .byte n (fun i => .int (f i))) {k : Nat} (hj : j.toInt = (k : Int)) (hk : k < n) {v : Int32} (hv : f k = v) (hd : decode c.code pc = .ok (.baload, 1)) (hp : pc + 1 = pc')
    (kk : Go p.tables e below s Q C S (T.setTop (mkF m pc' Ls (.int v :: rest)))) : Go p.tables e below s Q C S (T.setTop (mkF m pc Ls (.int j :: .ref a :: rest))) := by
  subst hp hv
  obtain ⟨cl, A, r1, r2, r3, -⟩ := F
  exact Go.of (fun t q => X.baloadBytes hx (j := j) (v := .int (f k)) (by rw [eT]; exact A.1) (State.isArrayOf_alike hZ.alike A.2.1) A.2.2 (in_idx hj hk r1) (by rw [nat_idx hj, r3 _ hk]) (g := mkF m pc Ls (.int j :: .ref a :: rest)) rfl rfl hd t q) kk
theorem Go.bastore (X : Stand p l e R s m args below meth c T locs cells slots) (hx : p.tables.exec = Jvm.exec) (hZ : Z.Warmed39 s.vm) (eT : T.heap = h) {f : Nat → Int32} (F : ArF Z h a .byte n (fun i => .int (f i))) {x : Int32} {k : Nat} (hj : j.toInt = (k : Int)) (hk : k < n) (hd : decode c.code pc = .ok (.bastore, 1)) (hp : pc + 1 = pc')
    (kk : ∀ T' h', Stand p l e R s m args below meth c T' (locs ++ [⟨a, k⟩]) cells slots → T'.heap = h' → Wr h h' a k (.int (nar .byte x)) → ArF Z h' a .byte n (fun i => .int (upI f k (nar .byte x) i)) → Go p.tables e below s Q C S (T'.setTop (mkF m pc' Ls rest))) : Go p.tables e below s Q C S (T.setTop (mkF m pc Ls (.int x :: .int j :: .ref a :: rest))) := by
  subst hp
  obtain ⟨cl, A, r1, r2, r3, r4⟩ := F
  obtain ⟨T', h', X', e', W, st⟩ := stB X hx hZ eT A (j := j) (in_idx hj hk r1) (g := mkF m pc Ls (.int x :: .int j :: .ref a :: rest)) rfl rfl hd
  rw [nat_idx hj] at X' W
  exact Go.of st (kk T' h' X' e' W ((ArF.set ⟨cl, A, r1, r2, r3, r4⟩ (fits_nar_byte _) W).congr fun i _ => by simp only [upV, upI]; split <;> rfl))
theorem Go.newarr (X : Stand p l e R s m args below meth c T locs cells slots) (hx : p.tables.exec = Jvm.exec) (hZ : Z.Warmed39 s.vm) {aty : ArrayType} {ty : FieldType} (hty : newarray.typeOf aty = ty) (w : (Cond.arrayClass ty).before a0 Z = true) (eT : T.heap = h) {z : Int32} (hn : ¬ z < 0) (hz : z.toNatClampNeg = n) {cap : Nat} (hcap : n ≤ cap) (hb : cap * 8 ≤ 536870912) (hc : cells + 1 ≤ R.cells) (hl : slots + cap ≤ R.slots)
    (hd : decode c.code pc = .ok (.newarray aty, 2)) (hp : pc + 2 = pc')
    (kk : ∀ T' h' b, Stand p l e R s m args below meth c T' locs (cells + 1) (slots + cap) → T'.heap = h' → Ext h h' → b = h.size → ArF Z h' b ty n (fun _ => defaultValue ty) → Go p.tables e below s Q C S (T'.setTop (mkF m pc' Ls (.ref b :: rest)))) : Go p.tables e below s Q C S (T.setTop (mkF m pc Ls (.int z :: rest))) := by
  subst hty hp
  obtain ⟨T', h', cA, X', e', E, A, st⟩ := newP X hx hZ w eT (g := mkF m pc Ls (.int z :: rest)) rfl hd rfl hn (cap := cap) (by omega) hb hc hl
  exact Go.of st (kk T' h' h.size X' e' E rfl (ArF.new A hn hz))
end ArrSteps
section Steps1
variable {p : Program} {l : Launch} {e : Env} {R : Room} {s : State} {m : MethodId} {args : Array Value} {below : List Frame} {meth : Method} {c : Code} {T : State} {locs : List Loc} {cells slots : Nat} {Q : Option Value → Heap → List Loc → Prop} {C S : Nat} {bs : ByteArray} {pc pc' : Nat} {Ls : Array Slot} {st : List Value} {Z : State} {a0 : Array Value} {h : Heap} {own : String}
theorem g_iloadN (X : Stand p l e R s m args below meth c T locs cells slots) (hx : p.tables.exec = Jvm.exec) (hby : c.code = bs) {k : Fin 4} {v : Int32} (hd : decode bs pc = .ok (.iload_n k, 1)) (hp : pc + 1 = pc') (hl : Ls[k.val]? = some (.val (.int v))) (kk : Go p.tables e below s Q C S (T.setTop (mkF m pc' Ls (.int v :: st)))) : Go p.tables e below s Q C S (T.setTop (mkF m pc Ls (st))) := by
  subst hp
  exact Go.of (fun _ q => XS.iloadN X.here hx rfl (hb hby hd) hl q) kk
theorem g_iload (X : Stand p l e R s m args below meth c T locs cells slots) (hx : p.tables.exec = Jvm.exec) (hby : c.code = bs) {k : Nat} {v : Int32} (hd : decode bs pc = .ok (.iload k, 2)) (hp : pc + 2 = pc') (hl : Ls[k]? = some (.val (.int v))) (kk : Go p.tables e below s Q C S (T.setTop (mkF m pc' Ls (.int v :: st)))) : Go p.tables e below s Q C S (T.setTop (mkF m pc Ls (st))) := by
  subst hp
  exact Go.of (fun _ q => XS.iload X.here hx rfl (hb hby hd) hl q) kk
theorem g_istoreN (X : Stand p l e R s m args below meth c T locs cells slots) (hx : p.tables.exec = Jvm.exec) (hby : c.code = bs) {k : Fin 4} {v : Int32} {L' : Array Slot} (hd : decode bs pc = .ok (.istore_n k, 1)) (hp : pc + 1 = pc') (hl : storeLocals Ls k.val (.int v) = some L') (kk : Go p.tables e below s Q C S (T.setTop (mkF m pc' L' (st)))) : Go p.tables e below s Q C S (T.setTop (mkF m pc Ls (.int v :: st))) := by
  subst hp
  exact Go.of (fun _ q => XS.istoreN X.here hx rfl (hb hby hd) rfl hl q) kk
theorem g_istore (X : Stand p l e R s m args below meth c T locs cells slots) (hx : p.tables.exec = Jvm.exec) (hby : c.code = bs) {k : Nat} {v : Int32} {L' : Array Slot} (hd : decode bs pc = .ok (.istore k, 2)) (hp : pc + 2 = pc') (hl : storeLocals Ls k (.int v) = some L') (kk : Go p.tables e below s Q C S (T.setTop (mkF m pc' L' (st)))) : Go p.tables e below s Q C S (T.setTop (mkF m pc Ls (.int v :: st))) := by
  subst hp
  exact Go.of (fun _ q => XS.istore X.here hx rfl (hb hby hd) rfl hl q) kk
theorem g_iadd (X : Stand p l e R s m args below meth c T locs cells slots) (hx : p.tables.exec = Jvm.exec) (hby : c.code = bs) {x y z : Int32} (hd : decode bs pc = .ok (.iadd, 1)) (hp : pc + 1 = pc') (hz : x + y = z) (kk : Go p.tables e below s Q C S (T.setTop (mkF m pc' Ls (.int z :: st)))) : Go p.tables e below s Q C S (T.setTop (mkF m pc Ls (.int y :: .int x :: st))) := by
  subst hp; subst hz
  exact Go.of (fun _ q => XS.iadd X.here hx rfl (hb hby hd) rfl q) kk
theorem g_isub (X : Stand p l e R s m args below meth c T locs cells slots) (hx : p.tables.exec = Jvm.exec) (hby : c.code = bs) {x y z : Int32} (hd : decode bs pc = .ok (.isub, 1)) (hp : pc + 1 = pc') (hz : x - y = z) (kk : Go p.tables e below s Q C S (T.setTop (mkF m pc' Ls (.int z :: st)))) : Go p.tables e below s Q C S (T.setTop (mkF m pc Ls (.int y :: .int x :: st))) := by
  subst hp; subst hz
  exact Go.of (fun _ q => XS.isub X.here hx rfl (hb hby hd) rfl q) kk
theorem g_imul (X : Stand p l e R s m args below meth c T locs cells slots) (hx : p.tables.exec = Jvm.exec) (hby : c.code = bs) {x y z : Int32} (hd : decode bs pc = .ok (.imul, 1)) (hp : pc + 1 = pc') (hz : x * y = z) (kk : Go p.tables e below s Q C S (T.setTop (mkF m pc' Ls (.int z :: st)))) : Go p.tables e below s Q C S (T.setTop (mkF m pc Ls (.int y :: .int x :: st))) := by
  subst hp; subst hz
  exact Go.of (fun _ q => XS.imul X.here hx rfl (hb hby hd) rfl q) kk
theorem g_iand (X : Stand p l e R s m args below meth c T locs cells slots) (hx : p.tables.exec = Jvm.exec) (hby : c.code = bs) {x y z : Int32} (hd : decode bs pc = .ok (.iand, 1)) (hp : pc + 1 = pc') (hz : x &&& y = z) (kk : Go p.tables e below s Q C S (T.setTop (mkF m pc' Ls (.int z :: st)))) : Go p.tables e below s Q C S (T.setTop (mkF m pc Ls (.int y :: .int x :: st))) := by
  subst hp; subst hz
  exact Go.of (fun _ q => XS.iand X.here hx rfl (hb hby hd) rfl q) kk
theorem g_irem (X : Stand p l e R s m args below meth c T locs cells slots) (hx : p.tables.exec = Jvm.exec) (hby : c.code = bs) {x y z : Int32} (hd : decode bs pc = .ok (.irem, 1)) (hp : pc + 1 = pc') (hy : y ≠ 0) (hz : x % y = z) (kk : Go p.tables e below s Q C S (T.setTop (mkF m pc' Ls (.int z :: st)))) : Go p.tables e below s Q C S (T.setTop (mkF m pc Ls (.int y :: .int x :: st))) := by
  subst hp; subst hz
  exact Go.of (fun _ q => XS.irem X.here hx rfl (hb hby hd) rfl hy (by rw [irem_mod]; exact q)) kk
theorem g_iushr (X : Stand p l e R s m args below meth c T locs cells slots) (hx : p.tables.exec = Jvm.exec) (hby : c.code = bs) {x z : Int32} {y : Int32} (hd : decode bs pc = .ok (.iushr, 1)) (hp : pc + 1 = pc') (hz : (x.toUInt32 >>> (y &&& 31).toUInt32).toInt32 = z) (kk : Go p.tables e below s Q C S (T.setTop (mkF m pc' Ls (.int z :: st)))) : Go p.tables e below s Q C S (T.setTop (mkF m pc Ls (.int y :: .int x :: st))) := by
  subst hp; subst hz
  exact Go.of (fun _ q => XS.iushr X.here hx rfl (hb hby hd) rfl q) kk
theorem g_i2b (X : Stand p l e R s m args below meth c T locs cells slots) (hx : p.tables.exec = Jvm.exec) (hby : c.code = bs) {x : Int32} {z : Int32} (hd : decode bs pc = .ok (.i2b, 1)) (hp : pc + 1 = pc') (hz : x.toInt8.toInt32 = z) (kk : Go p.tables e below s Q C S (T.setTop (mkF m pc' Ls (.int z :: st)))) : Go p.tables e below s Q C S (T.setTop (mkF m pc Ls (.int x :: st))) := by
  subst hp; subst hz
  exact Go.of (fun _ q => XS.i2b X.here hx rfl (hb hby hd) rfl q) kk
theorem g_aloadN (X : Stand p l e R s m args below meth c T locs cells slots) (hx : p.tables.exec = Jvm.exec) (hby : c.code = bs) {k : Fin 4} {v : Value} (hd : decode bs pc = .ok (.aload_n k, 1)) (hp : pc + 1 = pc') (hl : Ls[k.val]? = some (.val v)) (hr : v.isRef = true) (kk : Go p.tables e below s Q C S (T.setTop (mkF m pc' Ls (v :: st)))) : Go p.tables e below s Q C S (T.setTop (mkF m pc Ls (st))) := by
  subst hp
  exact Go.of (fun _ q => XS.aloadN X.here hx rfl (hb hby hd) hl hr q) kk
theorem g_aload (X : Stand p l e R s m args below meth c T locs cells slots) (hx : p.tables.exec = Jvm.exec) (hby : c.code = bs) {k : Nat} {v : Value} (hd : decode bs pc = .ok (.aload k, 2)) (hp : pc + 2 = pc') (hl : Ls[k]? = some (.val v)) (hr : v.isRef = true) (kk : Go p.tables e below s Q C S (T.setTop (mkF m pc' Ls (v :: st)))) : Go p.tables e below s Q C S (T.setTop (mkF m pc Ls (st))) := by
  subst hp
  exact Go.of (fun _ q => XS.aload X.here hx rfl (hb hby hd) hl hr q) kk
theorem g_astoreN (X : Stand p l e R s m args below meth c T locs cells slots) (hx : p.tables.exec = Jvm.exec) (hby : c.code = bs) {k : Fin 4} {v : Value} {L' : Array Slot} (hd : decode bs pc = .ok (.astore_n k, 1)) (hp : pc + 1 = pc') (hr : v.isRef = true) (hl : storeLocals Ls k.val v = some L') (kk : Go p.tables e below s Q C S (T.setTop (mkF m pc' L' (st)))) : Go p.tables e below s Q C S (T.setTop (mkF m pc Ls (v :: st))) := by
  subst hp
  exact Go.of (fun _ q => XS.astoreN X.here hx rfl (hb hby hd) rfl hr hl q) kk
theorem g_astore (X : Stand p l e R s m args below meth c T locs cells slots) (hx : p.tables.exec = Jvm.exec) (hby : c.code = bs) {k : Nat} {v : Value} {L' : Array Slot} (hd : decode bs pc = .ok (.astore k, 2)) (hp : pc + 2 = pc') (hr : v.isRef = true) (hl : storeLocals Ls k v = some L') (kk : Go p.tables e below s Q C S (T.setTop (mkF m pc' L' (st)))) : Go p.tables e below s Q C S (T.setTop (mkF m pc Ls (v :: st))) := by
  subst hp
  exact Go.of (fun _ q => XS.astore X.here hx rfl (hb hby hd) rfl hr hl q) kk
theorem g_iconst (X : Stand p l e R s m args below meth c T locs cells slots) (hx : p.tables.exec = Jvm.exec) (hby : c.code = bs) {i : Int} {z : Int32} (hd : decode bs pc = .ok (.iconst i, 1)) (hp : pc + 1 = pc') (hz : Int32.ofInt i = z) (kk : Go p.tables e below s Q C S (T.setTop (mkF m pc' Ls (.int z :: st)))) : Go p.tables e below s Q C S (T.setTop (mkF m pc Ls (st))) := by
  subst hp; subst hz
  exact Go.of (fun _ q => XS.iconst X.here hx rfl (hb hby hd) q) kk
theorem g_bipush (X : Stand p l e R s m args below meth c T locs cells slots) (hx : p.tables.exec = Jvm.exec) (hby : c.code = bs) {i : Int} {z : Int32} (hd : decode bs pc = .ok (.bipush i, 2)) (hp : pc + 2 = pc') (hz : (Int8.ofInt i).toInt32 = z) (kk : Go p.tables e below s Q C S (T.setTop (mkF m pc' Ls (.int z :: st)))) : Go p.tables e below s Q C S (T.setTop (mkF m pc Ls (st))) := by
  subst hp; subst hz
  exact Go.of (fun _ q => XS.bipush X.here hx rfl (hb hby hd) q) kk
theorem g_sipush (X : Stand p l e R s m args below meth c T locs cells slots) (hx : p.tables.exec = Jvm.exec) (hby : c.code = bs) {i : Int} {z : Int32} (hd : decode bs pc = .ok (.sipush i, 3)) (hp : pc + 3 = pc') (hz : (Int16.ofInt i).toInt32 = z) (kk : Go p.tables e below s Q C S (T.setTop (mkF m pc' Ls (.int z :: st)))) : Go p.tables e below s Q C S (T.setTop (mkF m pc Ls (st))) := by
  subst hp; subst hz
  exact Go.of (fun _ q => XS.sipush X.here hx rfl (hb hby hd) q) kk
theorem g_iinc (X : Stand p l e R s m args below meth c T locs cells slots) (hx : p.tables.exec = Jvm.exec) (hby : c.code = bs) {k : Nat} {i : Int} {x : Int32} {L' : Array Slot} (hd : decode bs pc = .ok (.iinc k i, 3)) (hp : pc + 3 = pc') (hl : Ls[k]? = some (.val (.int x))) (hl' : storeLocals Ls k (.int (x + Int32.ofInt i)) = some L') (kk : Go p.tables e below s Q C S (T.setTop (mkF m pc' L' (st)))) : Go p.tables e below s Q C S (T.setTop (mkF m pc Ls (st))) := by
  subst hp
  exact Go.of (fun _ q => XS.iinc X.here hx rfl (hb hby hd) hl hl' q) kk
theorem g_dup (X : Stand p l e R s m args below meth c T locs cells slots) (hx : p.tables.exec = Jvm.exec) (hby : c.code = bs) {v : Value} (hd : decode bs pc = .ok (.dup, 1)) (hp : pc + 1 = pc') (hc : v.category = 1) (kk : Go p.tables e below s Q C S (T.setTop (mkF m pc' Ls (v :: v :: st)))) : Go p.tables e below s Q C S (T.setTop (mkF m pc Ls (v :: st))) := by
  subst hp
  exact Go.of (fun _ q => XS.dup X.here hx rfl (hb hby hd) rfl hc q) kk
theorem g_pop (X : Stand p l e R s m args below meth c T locs cells slots) (hx : p.tables.exec = Jvm.exec) (hby : c.code = bs) {v : Value} (hd : decode bs pc = .ok (.pop, 1)) (hp : pc + 1 = pc') (hc : v.category = 1) (kk : Go p.tables e below s Q C S (T.setTop (mkF m pc' Ls (st)))) : Go p.tables e below s Q C S (T.setTop (mkF m pc Ls (v :: st))) := by
  subst hp
  exact Go.of (fun _ q => XS.pop X.here hx rfl (hb hby hd) rfl hc q) kk
theorem g_goto (X : Stand p l e R s m args below meth c T locs cells slots) (hx : p.tables.exec = Jvm.exec) (hby : c.code = bs) {o : Int} (hd : decode bs pc = .ok (.goto o, 3)) (h0 : 0 ≤ (pc : Int) + o) (hp : ((pc : Int) + o).toNat = pc') (kk : Go p.tables e below s Q C S (T.setTop (mkF m pc' Ls st))) : Go p.tables e below s Q C S (T.setTop (mkF m pc Ls st)) :=
  Go.of (fun _ q => XS.goto X.here hx rfl (pc0 := pc) (pc' := pc') rfl (hb hby hd) h0 hp q) kk
theorem g_ifYes (X : Stand p l e R s m args below meth c T locs cells slots) (hx : p.tables.exec = Jvm.exec) (hby : c.code = bs) {cd : ClassFile.Cond} {x : Int32} {o : Int} (hd : decode bs pc = .ok (.ifCond cd o, 3)) (hc : if_icmp.holds cd x 0 = true) (h0 : 0 ≤ (pc : Int) + o) (hp : ((pc : Int) + o).toNat = pc') (kk : Go p.tables e below s Q C S (T.setTop (mkF m pc' Ls st))) : Go p.tables e below s Q C S (T.setTop (mkF m pc Ls (.int x :: st))) :=
  Go.of (fun _ q => XS.ifYes X.here hx rfl (pc0 := pc) (pc' := pc') rfl (hb hby hd) rfl ((if0 _ _).trans hc) h0 hp q) kk
theorem g_ifNo (X : Stand p l e R s m args below meth c T locs cells slots) (hx : p.tables.exec = Jvm.exec) (hby : c.code = bs) {cd : ClassFile.Cond} {x : Int32} {o : Int} (hd : decode bs pc = .ok (.ifCond cd o, 3)) (hc : if_icmp.holds cd x 0 = false) (hp : pc + 3 = pc') (kk : Go p.tables e below s Q C S (T.setTop (mkF m pc' Ls st))) : Go p.tables e below s Q C S (T.setTop (mkF m pc Ls (.int x :: st))) := by
  subst hp
  exact Go.of (fun _ q => XS.ifNo X.here hx rfl (hb hby hd) rfl ((if0 _ _).trans hc) q) kk
theorem g_icmpYes (X : Stand p l e R s m args below meth c T locs cells slots) (hx : p.tables.exec = Jvm.exec) (hby : c.code = bs) {cd : ClassFile.Cond} {x y : Int32} {o : Int} (hd : decode bs pc = .ok (.if_icmp cd o, 3)) (hc : if_icmp.holds cd x y = true) (h0 : 0 ≤ (pc : Int) + o) (hp : ((pc : Int) + o).toNat = pc') (kk : Go p.tables e below s Q C S (T.setTop (mkF m pc' Ls st))) : Go p.tables e below s Q C S (T.setTop (mkF m pc Ls (.int y :: .int x :: st))) :=
  Go.of (fun _ q => XS.icmpYes X.here hx rfl (pc0 := pc) (pc' := pc') rfl (hb hby hd) rfl hc h0 hp q) kk
theorem g_icmpNo (X : Stand p l e R s m args below meth c T locs cells slots) (hx : p.tables.exec = Jvm.exec) (hby : c.code = bs) {cd : ClassFile.Cond} {x y : Int32} {o : Int} (hd : decode bs pc = .ok (.if_icmp cd o, 3)) (hc : if_icmp.holds cd x y = false) (hp : pc + 3 = pc') (kk : Go p.tables e below s Q C S (T.setTop (mkF m pc' Ls st))) : Go p.tables e below s Q C S (T.setTop (mkF m pc Ls (.int y :: .int x :: st))) := by
  subst hp
  exact Go.of (fun _ q => XS.icmpNo X.here hx rfl (hb hby hd) rfl hc q) kk
theorem g_ldcI (X : Stand p l e R s m args below meth c T locs cells slots) (hx : p.tables.exec = Jvm.exec) (hby : c.code = bs) (hZ : Z.Warmed39 s.vm) (hown : s.vm.findClass own = some m.cls) {i : Nat} {z : Int32} (w : (Cond.constant own i z).before a0 Z = true) (hd : decode bs pc = .ok (.ldc i, 2)) (hp : pc + 2 = pc') (kk : Go p.tables e below s Q C S (T.setTop (mkF m pc' Ls (.int z :: st)))) : Go p.tables e below s Q C S (T.setTop (mkF m pc Ls st)) := by
  subst hp
  exact Go.of (fun _ q => X.ldcInt hx hown (mvT hZ w) (g := mkF m pc Ls st) rfl (hb hby hd) _ q) kk
theorem g_getf (X : Stand p l e R s m args below meth c T locs cells slots) (hx : p.tables.exec = Jvm.exec) (hby : c.code = bs) (hZ : Z.Warmed39 s.vm) {R0 O n d host : String} {i : Nat} (hown : s.vm.findClass own = some m.cls) (w : (Cond.fieldLink own i R0 n d).before a0 Z = true ∨ (Cond.fieldLinkNest own i R0 n d host).before a0 Z = true) (via : Via Z R0 O n d) (eT : T.heap = h) {a : Addr} {v : Value} (F : Fld Z h a O n d v) (hd : decode bs pc = .ok (.getfield i, 3)) (hp : pc + 3 = pc') (kk : ∀ T', Stand p l e R s m args below meth c T' locs cells slots → T'.heap = h → Go p.tables e below s Q C S (T'.setTop (mkF m pc' Ls (v :: st)))) : Go p.tables e below s Q C S (T.setTop (mkF m pc Ls (.ref a :: st))) := by
  subst hp
  obtain ⟨T', X', e', q⟩ := getF X hx hZ hown w via eT F (g := mkF m pc Ls (.ref a :: st)) rfl rfl (hb hby hd)
  exact Go.of q (kk T' X' e')
theorem g_putf (X : Stand p l e R s m args below meth c T locs cells slots) (hx : p.tables.exec = Jvm.exec) (hby : c.code = bs) (hZ : Z.Warmed39 s.vm) {R0 O n d host : String} {i : Nat} (hown : s.vm.findClass own = some m.cls) (w : (Cond.fieldLink own i R0 n d).before a0 Z = true ∨ (Cond.fieldLinkNest own i R0 n d host).before a0 Z = true) (via : Via Z R0 O n d) (eT : T.heap = h) {a : Addr} {v old : Value} {K : String} {kk' : Nat} {ty : FieldType} (F : Fld Z h a O n d old) (E : Exa Z h a K) (L : (Cond.lays K O n d).before a0 Z = true ∨ ((Cond.laysFinal K O n d).before a0 Z = true ∧ own = O ∧ meth.name = "<init>")) (wi : (Cond.instantiable K kk').before a0 Z = true) (hty : parseFieldDescriptor d = some ty) (hn : narrow ty v = v) (hf : fits ty v = true) (hd : decode bs pc = .ok (.putfield i, 3)) (hp : pc + 3 = pc')
    (kk : ∀ T' h', Stand p l e R s m args below meth c T' (locs ++ [⟨a, Jvm.RoadKit.slotOf Z O n d⟩]) cells slots → T'.heap = h' → Wr h h' a (Jvm.RoadKit.slotOf Z O n d) v → Fld Z h' a O n d v → Go p.tables e below s Q C S (T'.setTop (mkF m pc' Ls st))) : Go p.tables e below s Q C S (T.setTop (mkF m pc Ls (v :: .ref a :: st))) := by
  subst hp
  obtain ⟨T', h', X', e', W, q⟩ := putF X hx hZ hown w via eT F E L wi hty hn hf (g := mkF m pc Ls (v :: .ref a :: st)) rfl rfl (hb hby hd)
  exact Go.of q (kk T' h' X' e' W (F.same W))
theorem g_new (X : Stand p l e R s m args below meth c T locs cells slots) (hx : p.tables.exec = Jvm.exec) (hby : c.code = bs) (hZ : Z.Warmed39 s.vm) {K : String} {i n : Nat} (hown : s.vm.findClass own = some m.cls) (w : (Cond.classLink own i K).before a0 Z = true) (wi : (Cond.instantiable K n).before a0 Z = true) (wz : (Cond.initialized K).before a0 Z = true) (eT : T.heap = h) (hd : decode bs pc = .ok (.new i, 3)) (hp : pc + 3 = pc') (hc : cells + 1 ≤ R.cells) (hl : slots + n ≤ R.slots)
    (kk : ∀ T' h' b, Stand p l e R s m args below meth c T' locs (cells + 1) (slots + n) → T'.heap = h' → Ext h h' → b = h.size → Exa Z h' b K → (∀ {O nm d : String} {ty : FieldType}, Laid Z a0 K O nm d → parseFieldDescriptor d = some ty → Fld Z h' b O nm d (defaultValue ty)) → Go p.tables e below s Q C S (T'.setTop (mkF m pc' Ls (.ref b :: st)))) : Go p.tables e below s Q C S (T.setTop (mkF m pc Ls st)) := by
  subst hp
  obtain ⟨T', h', X', e', E, A, D, -, q⟩ := newO X hx hZ hown w wi wz eT (g := mkF m pc Ls st) rfl (hb hby hd) hc hl
  exact Go.of q (kk T' h' h.size X' e' E rfl A D)
theorem g_init (X : Stand p l e R s m args below meth c T locs cells slots) (hx : p.tables.exec = Jvm.exec) (hby : c.code = bs) (hZ : Z.Warmed39 s.vm) {i : Nat} (hown : s.vm.findClass own = some m.cls) (w1 : (Cond.methodLink own i Lib.objectInit).before a0 Z = true) (w2 : (Cond.instanceMethod Lib.objectInit).before a0 Z = true) (w3 : (Cond.code Lib.objectInit ⟨#[0xb1]⟩ 1 none).before a0 Z = true) (eT : T.heap = h) {a : Addr} {W : Nat} (hsz : Ls.size = c.maxLocals) (hd : decode bs pc = .ok (.invokespecial i, 3)) (hp : pc + 3 = pc') (hf : 1 ≤ R.frames) (hW : (st.map fun v => v.category).sum = W) (hl : W + 12 ≤ R.locals) (kk : ∀ T', Stand p l e R s m args below meth c T' locs cells slots → T'.heap = h → Go p.tables e below s Q C S (T'.setTop (mkF m pc' Ls st))) : Go p.tables e below s Q C S (T.setTop (mkF m pc Ls (.ref a :: st))) := by
  subst hp
  obtain ⟨T', X', e', q⟩ := initO X hx hZ hown w1 w2 w3 eT (g := mkF m pc Ls (.ref a :: st)) rfl hsz rfl (hb hby hd) hf (W := W) (by show 2 * 0 + _ ≤ _; rw [hW]; omega) hl
  exact Go.of q (kk T' X' e')
end Steps1
end Jvm.OwnKit
namespace Jvm.Pilot.@@N@@
open Jvm Jvm.ClassFile Sem Op Lib Jvm.Free Jvm.Stand Jvm.LawKit Jvm.RoadKit Jvm.OwnKit Bundle Jvm.Pilot.@@N@@.Jvm.D
theorem wi {a0 : Array Value} {Z : State} (hw : ∀ d ∈ tables_1, d.before a0 Z = true) {d : Jvm.Cond} (i : Nat) (h : tables_1[i]? = some d) : d.before a0 Z = true := hw d (List.mem_of_getElem? h)
abbrev kNK : String := "com/example/tweak_tags/tweaktags/NameKey"
theorem own_nz {x : Int32} (h : 0 < x.toInt) : x ≠ 0 := fun q => by rw [q] at h; exact absurd h (by decide)
def own_at (a b : Int32) : Int32 := nar .byte ((a.toUInt32 >>> (((8 : Int32) * b) &&& 31).toUInt32).toInt32.toInt8.toInt32)
theorem own_at_nar (a b : Int32) : nar .byte (own_at a b) = own_at a b := by
  unfold own_at nar
  simp
def own_bs (p : Int32) (k : Nat) : Int32 := own_at p (Int32.ofNat k)
def own_c (p q : Int32) (s l k : Nat) : Int32 := if k < l then own_bs p (s + k) else own_bs q k
theorem own_c_nar (p q : Int32) (s l k : Nat) : nar .byte (own_c p q s l k) = own_c p q s l k := by
  unfold own_c own_bs
  split <;> exact own_at_nar _ _
def own_pow : Nat → Int32
  | 0 => 1
  | 1 => 31
  | 2 => 961
  | 3 => 29791
  | _ => 923521
def own_hash (n : Int32) (g : Nat → Int32) (s : Nat) : Nat → Int32
  | 0 => n
  | k + 1 => (31 : Int32) * own_hash n g s k + g (s + k)
def own_x (n p : Int32) (s l : Nat) : Nat → Int32
  | 0 => n * own_pow l
  | k + 1 => if k < l then own_x n p s l k + own_bs p (s + k) * own_pow (l - 1 - k) else own_x n p s l k
theorem own_xP (n p : Int32) (s l k : Nat) (h : k < l) : own_x n p s l (k + 1) = own_x n p s l k + own_bs p (s + k) * own_pow (l - 1 - k) := by show (if _ then _ else _) = _; rw [if_pos h]
theorem own_xN (n p : Int32) (s l k : Nat) (h : ¬ k < l) : own_x n p s l (k + 1) = own_x n p s l k := by show (if _ then _ else _) = _; rw [if_neg h]
theorem own_r1 (a b : Int32) : a * 31 + b * 1 = 31 * a + b := by rw [Int32.mul_one, Int32.mul_comm]
theorem own_r2 (a b c : Int32) : a * 961 + b * 31 + c * 1 = 31 * (31 * a + b) + c := by
  rw [Int32.mul_one, Int32.mul_add, ← Int32.mul_assoc, Int32.mul_comm a, Int32.mul_comm b]; rfl
theorem own_r3 (a b c d : Int32) : a * 29791 + b * 961 + c * 31 + d * 1 = 31 * (31 * (31 * a + b) + c) + d := by
  rw [← own_r2, Int32.mul_one, Int32.add_mul, Int32.mul_comm 31 a, Int32.mul_assoc]; rfl
theorem own_r4 (a b c d e : Int32) : a * 923521 + b * 29791 + c * 961 + d * 31 + e * 1 = 31 * (31 * (31 * (31 * a + b) + c) + d) + e := by
  rw [← own_r3, Int32.mul_one, Int32.add_mul, Int32.mul_comm 31 a, Int32.mul_assoc]; rfl
theorem own_hx (n p : Int32) (s l : Nat) (h : l ≤ 4) : own_x n p s l 4 = own_hash n (own_bs p) s l := by
  rcases (by omega : l = 0 ∨ l = 1 ∨ l = 2 ∨ l = 3 ∨ l = 4) with rfl | rfl | rfl | rfl | rfl
  · exact Int32.mul_one _
  · exact own_r1 _ _
  · exact own_r2 _ _ _
  · exact own_r3 _ _ _ _
  · exact own_r4 _ _ _ _ _
theorem own_cE (p q : Int32) (s l : Nat) : ∀ k, k < l → own_bs p (s + k) = own_c p q s l (0 + k) := by
  intro k hk
  rw [Nat.zero_add, own_c, if_pos hk]
theorem own_hc (n p q : Int32) (s l : Nat) : ∀ k, k ≤ l → own_hash n (own_c p q s l) 0 k = own_hash n (own_bs p) s k
  | 0, _ => rfl
  | k + 1, h => by
    show (31 : Int32) * own_hash n (own_c p q s l) 0 k + own_c p q s l (0 + k) = (31 : Int32) * own_hash n (own_bs p) s k + own_bs p (s + k)
    rw [own_hc n p q s l k (by omega), own_cE p q s l k (by omega)]
theorem d1_0 : decode method_3_code 0 = .ok (.iload_n 0, 1) := by decide +kernel
theorem d1_1 : decode method_3_code 1 = .ok (.bipush 8, 2) := by decide +kernel
theorem d1_3 : decode method_3_code 3 = .ok (.iload_n 1, 1) := by decide +kernel
theorem d1_4 : decode method_3_code 4 = .ok (.imul, 1) := by decide +kernel
theorem d1_5 : decode method_3_code 5 = .ok (.iushr, 1) := by decide +kernel
theorem d1_6 : decode method_3_code 6 = .ok (.i2b, 1) := by decide +kernel
theorem d1_7 : decode method_3_code 7 = .ok (.ireturn, 1) := by decide +kernel
theorem ef_rm_at (m : MethodId) (x0 : Int32) (x1 : Int32) : entryFrame m #[(.int x0), (.int x1)] 2 = mkF m 0 #[.val (.int x0), .val (.int x1)] [] := by first | (simp [entryFrame, mkF, argsToLocals, Value.category]; done) | rfl
theorem pn_com_example_tweak_tags_tweaktags_NameKeyPointPinLaw : plainName "com/example/tweak_tags/tweaktags/NameKeyPointPinLaw" = true := by first | (simp [plainName, overriddenIn]; done) | decide +kernel
abbrev Q_rm_at (Z : State) (i1 : Int32) (i2 : Int32) (h0 : Heap) (n0 : Nat) : Option Value → Heap → List Loc → Prop := fun v h L => v = some (.int (own_at i1 i2)) ∧ Fr n0 L ∧ h = h0
set_option maxRecDepth 65536 in
set_option maxHeartbeats 40000000 in
theorem rm_at (l : Launch) (Z : State) (a0 : Array Value) (hw : ∀ d ∈ tables_1, d.before a0 Z = true) (i1 : Int32) (i2 : Int32) (h0 : Heap) (n0 : Nat) (Z0 : n0 ≤ h0.size)  :
    Con l Z (⟨"com/example/tweak_tags/tweaktags/NameKeyPointPinLaw", "at", "(II)B"⟩ : MethodName) method_3_code 2 (some .byte) ({ frames := 0, cells := 0, slots := 0, locals := 0 } : Room) #[(.int i1), (.int i2)] h0 (Q_rm_at Z i1 i2 h0 n0) := by
  refine meet (y := (⟨"com/example/tweak_tags/tweaktags/NameKeyPointPinLaw", "at", "(II)B"⟩ : MethodName)) (Q := Q_rm_at Z i1 i2 h0 n0) (plainFor_of_name pn_com_example_tweak_tags_tweaktags_NameKeyPointPinLaw) (fun m => ef_rm_at m i1 i2) ?_
  intro p e s m below meth c T0 hx hby hml hZ hown hnm hret hlk X0 e0
  have N0 := Fr.nil n0
  refine g_iloadN X0 hx hby d1_0 (pc' := 1) rfl rfl ?_
  refine g_bipush X0 hx hby d1_1 (pc' := 3) rfl (z := (8 : Int32)) rfl ?_
  refine g_iloadN X0 hx hby d1_3 (pc' := 4) rfl rfl ?_
  refine g_imul X0 hx hby d1_4 (pc' := 5) rfl rfl ?_
  refine g_iushr X0 hx hby d1_5 (pc' := 6) rfl rfl ?_
  refine g_i2b X0 hx hby d1_6 (pc' := 7) rfl rfl ?_
  refine Go.retZ X0 hx hlk hret (by simp) (hb hby d1_7) (by decide) (by decide) ?_
  exact ⟨rfl, N0, e0⟩
theorem d2_0 : decode method_2_code 0 = .ok (.iload_n 0, 1) := by decide +kernel
theorem d2_1 : decode method_2_code 1 = .ok (.ifCond .ne 5, 3) := by decide +kernel
theorem d2_4 : decode method_2_code 4 = .ok (.iconst 1, 1) := by decide +kernel
theorem d2_5 : decode method_2_code 5 = .ok (.ireturn, 1) := by decide +kernel
theorem d2_6 : decode method_2_code 6 = .ok (.iload_n 0, 1) := by decide +kernel
theorem d2_7 : decode method_2_code 7 = .ok (.iconst 1, 1) := by decide +kernel
theorem d2_8 : decode method_2_code 8 = .ok (.if_icmp .ne 6, 3) := by decide +kernel
theorem d2_11 : decode method_2_code 11 = .ok (.bipush 31, 2) := by decide +kernel
theorem d2_13 : decode method_2_code 13 = .ok (.ireturn, 1) := by decide +kernel
theorem d2_14 : decode method_2_code 14 = .ok (.iload_n 0, 1) := by decide +kernel
theorem d2_15 : decode method_2_code 15 = .ok (.iconst 2, 1) := by decide +kernel
theorem d2_16 : decode method_2_code 16 = .ok (.if_icmp .ne 7, 3) := by decide +kernel
theorem d2_19 : decode method_2_code 19 = .ok (.sipush 961, 3) := by decide +kernel
theorem d2_22 : decode method_2_code 22 = .ok (.ireturn, 1) := by decide +kernel
theorem d2_23 : decode method_2_code 23 = .ok (.iload_n 0, 1) := by decide +kernel
theorem d2_24 : decode method_2_code 24 = .ok (.iconst 3, 1) := by decide +kernel
theorem d2_25 : decode method_2_code 25 = .ok (.if_icmp .ne 7, 3) := by decide +kernel
theorem d2_28 : decode method_2_code 28 = .ok (.sipush 29791, 3) := by decide +kernel
theorem d2_31 : decode method_2_code 31 = .ok (.ireturn, 1) := by decide +kernel
theorem d2_32 : decode method_2_code 32 = .ok (.ldc 7, 2) := by decide +kernel
theorem d2_34 : decode method_2_code 34 = .ok (.ireturn, 1) := by decide +kernel
theorem ef_rm_pow (m : MethodId) (x0 : Int32) : entryFrame m #[(.int x0)] 1 = mkF m 0 #[.val (.int x0)] [] := by first | (simp [entryFrame, mkF, argsToLocals, Value.category]; done) | rfl
abbrev Q_rm_pow (Z : State) (i1 : Int32) (k1 : Nat) (h0 : Heap) (n0 : Nat) : Option Value → Heap → List Loc → Prop := fun v h L => v = some (.int (own_pow k1)) ∧ Fr n0 L ∧ h = h0
set_option maxRecDepth 65536 in
set_option maxHeartbeats 40000000 in
theorem rm_pow (l : Launch) (Z : State) (a0 : Array Value) (hw : ∀ d ∈ tables_1, d.before a0 Z = true) (i1 : Int32) (k1 : Nat) (h0 : Heap) (n0 : Nat) (Z0 : n0 ≤ h0.size) (hk : i1.toInt = (k1 : Int)) (hk4 : k1 ≤ 4) :
    Con l Z (⟨"com/example/tweak_tags/tweaktags/NameKeyPointPinLaw", "pow31", "(I)I"⟩ : MethodName) method_2_code 1 (some .int) ({ frames := 0, cells := 0, slots := 0, locals := 0 } : Room) #[(.int i1)] h0 (Q_rm_pow Z i1 k1 h0 n0) := by
  refine meet (y := (⟨"com/example/tweak_tags/tweaktags/NameKeyPointPinLaw", "pow31", "(I)I"⟩ : MethodName)) (Q := Q_rm_pow Z i1 k1 h0 n0) (plainFor_of_name pn_com_example_tweak_tags_tweaktags_NameKeyPointPinLaw) (fun m => ef_rm_pow m i1) ?_
  intro p e s m below meth c T0 hx hby hml hZ hown hnm hret hlk X0 e0
  have N0 := Fr.nil n0
  refine g_iloadN X0 hx hby d2_0 (pc' := 1) rfl rfl ?_
  by_cases hc1 : i1.toInt = (0 : Int)
  · refine g_ifNo X0 hx hby d2_1 (pc' := 4) (teq (show i1 = (0 : Int32) from Int32.toInt_inj.mp hc1)).2 rfl ?_
    refine g_iconst X0 hx hby d2_4 (pc' := 5) rfl (z := (1 : Int32)) rfl ?_
    refine Go.retI X0 hx hlk hret (hb hby d2_5) (by decide) (by decide) ?_
    exact ⟨(by have q : k1 = 0 := (by omega); subst q; rfl), N0, e0⟩
  · refine g_ifYes X0 hx hby d2_1 (pc' := 6) (feq (show ¬ (i1 = (0 : Int32)) from fun q => hc1 (congrArg Int32.toInt q))).2 (by decide) (by decide) ?_
    refine g_iloadN X0 hx hby d2_6 (pc' := 7) rfl rfl ?_
    refine g_iconst X0 hx hby d2_7 (pc' := 8) rfl (z := (1 : Int32)) rfl ?_
    by_cases hc8 : i1.toInt = (1 : Int)
    · refine g_icmpNo X0 hx hby d2_8 (pc' := 11) (teq (show i1 = (1 : Int32) from Int32.toInt_inj.mp hc8)).2 rfl ?_
      refine g_bipush X0 hx hby d2_11 (pc' := 13) rfl (z := (31 : Int32)) rfl ?_
      refine Go.retI X0 hx hlk hret (hb hby d2_13) (by decide) (by decide) ?_
      exact ⟨(by have q : k1 = 1 := (by omega); subst q; rfl), N0, e0⟩
    · refine g_icmpYes X0 hx hby d2_8 (pc' := 14) (feq (show ¬ (i1 = (1 : Int32)) from fun q => hc8 (congrArg Int32.toInt q))).2 (by decide) (by decide) ?_
      refine g_iloadN X0 hx hby d2_14 (pc' := 15) rfl rfl ?_
      refine g_iconst X0 hx hby d2_15 (pc' := 16) rfl (z := (2 : Int32)) rfl ?_
      by_cases hc16 : i1.toInt = (2 : Int)
      · refine g_icmpNo X0 hx hby d2_16 (pc' := 19) (teq (show i1 = (2 : Int32) from Int32.toInt_inj.mp hc16)).2 rfl ?_
        refine g_sipush X0 hx hby d2_19 (pc' := 22) rfl (z := (961 : Int32)) rfl ?_
        refine Go.retI X0 hx hlk hret (hb hby d2_22) (by decide) (by decide) ?_
        exact ⟨(by have q : k1 = 2 := (by omega); subst q; rfl), N0, e0⟩
      · refine g_icmpYes X0 hx hby d2_16 (pc' := 23) (feq (show ¬ (i1 = (2 : Int32)) from fun q => hc16 (congrArg Int32.toInt q))).2 (by decide) (by decide) ?_
        refine g_iloadN X0 hx hby d2_23 (pc' := 24) rfl rfl ?_
        refine g_iconst X0 hx hby d2_24 (pc' := 25) rfl (z := (3 : Int32)) rfl ?_
        by_cases hc25 : i1.toInt = (3 : Int)
        · refine g_icmpNo X0 hx hby d2_25 (pc' := 28) (teq (show i1 = (3 : Int32) from Int32.toInt_inj.mp hc25)).2 rfl ?_
          refine g_sipush X0 hx hby d2_28 (pc' := 31) rfl (z := (29791 : Int32)) rfl ?_
          refine Go.retI X0 hx hlk hret (hb hby d2_31) (by decide) (by decide) ?_
          exact ⟨(by have q : k1 = 3 := (by omega); subst q; rfl), N0, e0⟩
        · refine g_icmpYes X0 hx hby d2_25 (pc' := 32) (feq (show ¬ (i1 = (3 : Int32)) from fun q => hc25 (congrArg Int32.toInt q))).2 (by decide) (by decide) ?_
          refine g_ldcI X0 hx hby hZ hown (wi hw 72 rfl) d2_32 (pc' := 34) rfl ?_
          refine Go.retI X0 hx hlk hret (hb hby d2_34) (by decide) (by decide) ?_
          exact ⟨(by have q : k1 = 4 := (by omega); subst q; rfl), N0, e0⟩
theorem d5_0 : decode prog_78_method_3_code 0 = .ok (.aload_n 0, 1) := by decide +kernel
theorem d5_1 : decode prog_78_method_3_code 1 = .ok (.iload_n 1, 1) := by decide +kernel
theorem d5_2 : decode prog_78_method_3_code 2 = .ok (.putfield 16, 3) := by decide +kernel
theorem d5_5 : decode prog_78_method_3_code 5 = .ok (.aload_n 0, 1) := by decide +kernel
theorem d5_6 : decode prog_78_method_3_code 6 = .ok (.aload_n 2, 1) := by decide +kernel
theorem d5_7 : decode prog_78_method_3_code 7 = .ok (.putfield 20, 3) := by decide +kernel
theorem sn0 {a0 : Array Value} {Z : State} (hw : ∀ d ∈ tables_1, d.before a0 Z = true) : Jvm.RoadKit.slotOf Z kNK "bytes" "[B" ≠ Jvm.RoadKit.slotOf Z kNK "number" "I" := slot_ne (Or.inl (wi hw 25 rfl)) (Or.inl (wi hw 23 rfl)) (by decide) (t := (.array .byte)) (t' := .int) (by decide) (by decide)
theorem d5_10 : decode prog_78_method_3_code 10 = .ok (.aload_n 0, 1) := by decide +kernel
theorem d5_11 : decode prog_78_method_3_code 11 = .ok (.iload_n 3, 1) := by decide +kernel
theorem d5_12 : decode prog_78_method_3_code 12 = .ok (.putfield 24, 3) := by decide +kernel
theorem sn1 {a0 : Array Value} {Z : State} (hw : ∀ d ∈ tables_1, d.before a0 Z = true) : Jvm.RoadKit.slotOf Z kNK "start" "I" ≠ Jvm.RoadKit.slotOf Z kNK "number" "I" := slot_ne (Or.inl (wi hw 27 rfl)) (Or.inl (wi hw 23 rfl)) (by decide) (t := .int) (t' := .int) (by decide) (by decide)
theorem sn2 {a0 : Array Value} {Z : State} (hw : ∀ d ∈ tables_1, d.before a0 Z = true) : Jvm.RoadKit.slotOf Z kNK "start" "I" ≠ Jvm.RoadKit.slotOf Z kNK "bytes" "[B" := slot_ne (Or.inl (wi hw 27 rfl)) (Or.inl (wi hw 25 rfl)) (by decide) (t := .int) (t' := (.array .byte)) (by decide) (by decide)
theorem d5_15 : decode prog_78_method_3_code 15 = .ok (.aload_n 0, 1) := by decide +kernel
theorem d5_16 : decode prog_78_method_3_code 16 = .ok (.iload 4, 2) := by decide +kernel
theorem d5_18 : decode prog_78_method_3_code 18 = .ok (.putfield 27, 3) := by decide +kernel
theorem sn3 {a0 : Array Value} {Z : State} (hw : ∀ d ∈ tables_1, d.before a0 Z = true) : Jvm.RoadKit.slotOf Z kNK "end" "I" ≠ Jvm.RoadKit.slotOf Z kNK "number" "I" := slot_ne (Or.inl (wi hw 29 rfl)) (Or.inl (wi hw 23 rfl)) (by decide) (t := .int) (t' := .int) (by decide) (by decide)
theorem sn4 {a0 : Array Value} {Z : State} (hw : ∀ d ∈ tables_1, d.before a0 Z = true) : Jvm.RoadKit.slotOf Z kNK "end" "I" ≠ Jvm.RoadKit.slotOf Z kNK "bytes" "[B" := slot_ne (Or.inl (wi hw 29 rfl)) (Or.inl (wi hw 25 rfl)) (by decide) (t := .int) (t' := (.array .byte)) (by decide) (by decide)
theorem sn5 {a0 : Array Value} {Z : State} (hw : ∀ d ∈ tables_1, d.before a0 Z = true) : Jvm.RoadKit.slotOf Z kNK "end" "I" ≠ Jvm.RoadKit.slotOf Z kNK "start" "I" := slot_ne (Or.inl (wi hw 29 rfl)) (Or.inl (wi hw 27 rfl)) (by decide) (t := .int) (t' := .int) (by decide) (by decide)
theorem d5_21 : decode prog_78_method_3_code 21 = .ok (.iload_n 1, 1) := by decide +kernel
theorem d5_22 : decode prog_78_method_3_code 22 = .ok (.istore 5, 2) := by decide +kernel
theorem d5_24 : decode prog_78_method_3_code 24 = .ok (.iload_n 3, 1) := by decide +kernel
theorem d5_25 : decode prog_78_method_3_code 25 = .ok (.istore 6, 2) := by decide +kernel
theorem d5_27 : decode prog_78_method_3_code 27 = .ok (.iload 6, 2) := by decide +kernel
theorem d5_29 : decode prog_78_method_3_code 29 = .ok (.iload 4, 2) := by decide +kernel
theorem d5_31 : decode prog_78_method_3_code 31 = .ok (.if_icmp .ge 21, 3) := by decide +kernel
theorem d5_34 : decode prog_78_method_3_code 34 = .ok (.bipush 31, 2) := by decide +kernel
theorem d5_36 : decode prog_78_method_3_code 36 = .ok (.iload 5, 2) := by decide +kernel
theorem d5_38 : decode prog_78_method_3_code 38 = .ok (.imul, 1) := by decide +kernel
theorem d5_39 : decode prog_78_method_3_code 39 = .ok (.aload_n 2, 1) := by decide +kernel
theorem d5_40 : decode prog_78_method_3_code 40 = .ok (.iload 6, 2) := by decide +kernel
theorem d5_42 : decode prog_78_method_3_code 42 = .ok (.baload, 1) := by decide +kernel
theorem d5_43 : decode prog_78_method_3_code 43 = .ok (.iadd, 1) := by decide +kernel
theorem d5_44 : decode prog_78_method_3_code 44 = .ok (.istore 5, 2) := by decide +kernel
theorem d5_46 : decode prog_78_method_3_code 46 = .ok (.iinc 6 1, 3) := by decide +kernel
theorem d5_49 : decode prog_78_method_3_code 49 = .ok (.goto (-22), 3) := by decide +kernel
theorem d5_52 : decode prog_78_method_3_code 52 = .ok (.aload_n 0, 1) := by decide +kernel
theorem d5_53 : decode prog_78_method_3_code 53 = .ok (.iload 5, 2) := by decide +kernel
theorem d5_55 : decode prog_78_method_3_code 55 = .ok (.putfield 30, 3) := by decide +kernel
theorem sn6 {a0 : Array Value} {Z : State} (hw : ∀ d ∈ tables_1, d.before a0 Z = true) : Jvm.RoadKit.slotOf Z kNK "hash" "I" ≠ Jvm.RoadKit.slotOf Z kNK "number" "I" := slot_ne (Or.inl (wi hw 31 rfl)) (Or.inl (wi hw 23 rfl)) (by decide) (t := .int) (t' := .int) (by decide) (by decide)
theorem sn7 {a0 : Array Value} {Z : State} (hw : ∀ d ∈ tables_1, d.before a0 Z = true) : Jvm.RoadKit.slotOf Z kNK "hash" "I" ≠ Jvm.RoadKit.slotOf Z kNK "bytes" "[B" := slot_ne (Or.inl (wi hw 31 rfl)) (Or.inl (wi hw 25 rfl)) (by decide) (t := .int) (t' := (.array .byte)) (by decide) (by decide)
theorem sn8 {a0 : Array Value} {Z : State} (hw : ∀ d ∈ tables_1, d.before a0 Z = true) : Jvm.RoadKit.slotOf Z kNK "hash" "I" ≠ Jvm.RoadKit.slotOf Z kNK "start" "I" := slot_ne (Or.inl (wi hw 31 rfl)) (Or.inl (wi hw 27 rfl)) (by decide) (t := .int) (t' := .int) (by decide) (by decide)
theorem sn9 {a0 : Array Value} {Z : State} (hw : ∀ d ∈ tables_1, d.before a0 Z = true) : Jvm.RoadKit.slotOf Z kNK "hash" "I" ≠ Jvm.RoadKit.slotOf Z kNK "end" "I" := slot_ne (Or.inl (wi hw 31 rfl)) (Or.inl (wi hw 29 rfl)) (by decide) (t := .int) (t' := .int) (by decide) (by decide)
theorem d5_58 : decode prog_78_method_3_code 58 = .ok (.aload_n 0, 1) := by decide +kernel
theorem d5_59 : decode prog_78_method_3_code 59 = .ok (.areturn, 1) := by decide +kernel
theorem sn10 {a0 : Array Value} {Z : State} (hw : ∀ d ∈ tables_1, d.before a0 Z = true) : Jvm.RoadKit.slotOf Z kNK "number" "I" ≠ Jvm.RoadKit.slotOf Z kNK "bytes" "[B" := slot_ne (Or.inl (wi hw 23 rfl)) (Or.inl (wi hw 25 rfl)) (by decide) (t := .int) (t' := (.array .byte)) (by decide) (by decide)
theorem sn11 {a0 : Array Value} {Z : State} (hw : ∀ d ∈ tables_1, d.before a0 Z = true) : Jvm.RoadKit.slotOf Z kNK "number" "I" ≠ Jvm.RoadKit.slotOf Z kNK "start" "I" := slot_ne (Or.inl (wi hw 23 rfl)) (Or.inl (wi hw 27 rfl)) (by decide) (t := .int) (t' := .int) (by decide) (by decide)
theorem sn12 {a0 : Array Value} {Z : State} (hw : ∀ d ∈ tables_1, d.before a0 Z = true) : Jvm.RoadKit.slotOf Z kNK "number" "I" ≠ Jvm.RoadKit.slotOf Z kNK "end" "I" := slot_ne (Or.inl (wi hw 23 rfl)) (Or.inl (wi hw 29 rfl)) (by decide) (t := .int) (t' := .int) (by decide) (by decide)
theorem sn13 {a0 : Array Value} {Z : State} (hw : ∀ d ∈ tables_1, d.before a0 Z = true) : Jvm.RoadKit.slotOf Z kNK "number" "I" ≠ Jvm.RoadKit.slotOf Z kNK "hash" "I" := slot_ne (Or.inl (wi hw 23 rfl)) (Or.inl (wi hw 31 rfl)) (by decide) (t := .int) (t' := .int) (by decide) (by decide)
theorem sn14 {a0 : Array Value} {Z : State} (hw : ∀ d ∈ tables_1, d.before a0 Z = true) : Jvm.RoadKit.slotOf Z kNK "bytes" "[B" ≠ Jvm.RoadKit.slotOf Z kNK "start" "I" := slot_ne (Or.inl (wi hw 25 rfl)) (Or.inl (wi hw 27 rfl)) (by decide) (t := (.array .byte)) (t' := .int) (by decide) (by decide)
theorem sn15 {a0 : Array Value} {Z : State} (hw : ∀ d ∈ tables_1, d.before a0 Z = true) : Jvm.RoadKit.slotOf Z kNK "bytes" "[B" ≠ Jvm.RoadKit.slotOf Z kNK "end" "I" := slot_ne (Or.inl (wi hw 25 rfl)) (Or.inl (wi hw 29 rfl)) (by decide) (t := (.array .byte)) (t' := .int) (by decide) (by decide)
theorem sn16 {a0 : Array Value} {Z : State} (hw : ∀ d ∈ tables_1, d.before a0 Z = true) : Jvm.RoadKit.slotOf Z kNK "bytes" "[B" ≠ Jvm.RoadKit.slotOf Z kNK "hash" "I" := slot_ne (Or.inl (wi hw 25 rfl)) (Or.inl (wi hw 31 rfl)) (by decide) (t := (.array .byte)) (t' := .int) (by decide) (by decide)
theorem sn17 {a0 : Array Value} {Z : State} (hw : ∀ d ∈ tables_1, d.before a0 Z = true) : Jvm.RoadKit.slotOf Z kNK "start" "I" ≠ Jvm.RoadKit.slotOf Z kNK "end" "I" := slot_ne (Or.inl (wi hw 27 rfl)) (Or.inl (wi hw 29 rfl)) (by decide) (t := .int) (t' := .int) (by decide) (by decide)
theorem sn18 {a0 : Array Value} {Z : State} (hw : ∀ d ∈ tables_1, d.before a0 Z = true) : Jvm.RoadKit.slotOf Z kNK "start" "I" ≠ Jvm.RoadKit.slotOf Z kNK "hash" "I" := slot_ne (Or.inl (wi hw 27 rfl)) (Or.inl (wi hw 31 rfl)) (by decide) (t := .int) (t' := .int) (by decide) (by decide)
theorem sn19 {a0 : Array Value} {Z : State} (hw : ∀ d ∈ tables_1, d.before a0 Z = true) : Jvm.RoadKit.slotOf Z kNK "end" "I" ≠ Jvm.RoadKit.slotOf Z kNK "hash" "I" := slot_ne (Or.inl (wi hw 29 rfl)) (Or.inl (wi hw 31 rfl)) (by decide) (t := .int) (t' := .int) (by decide) (by decide)
theorem ef_rm_pointN (m : MethodId) (x0 : Addr) (x1 : Int32) (x2 : Addr) (x3 : Int32) (x4 : Int32) : entryFrame m #[(.ref x0), (.int x1), (.ref x2), (.int x3), (.int x4)] 7 = mkF m 0 #[.val (.ref x0), .val (.int x1), .val (.ref x2), .val (.int x3), .val (.int x4), .unset, .unset] [] := by first | (simp [entryFrame, mkF, argsToLocals, Value.category]; done) | rfl
theorem pn_com_example_tweak_tags_tweaktags_NameKey : plainName "com/example/tweak_tags/tweaktags/NameKey" = true := by first | (simp [plainName, overriddenIn]; done) | decide +kernel
abbrev Q_rm_pointN (Z : State) (a1 : Addr) (i1 : Int32) (x2 : Addr) (i3 : Int32) (i4 : Int32) (gb : Nat → Int32) (s0 : Nat) (l0 : Nat) (f1 : Int32) (f2 : Int32) (f3 : Int32) (f4 : Int32) (h0 : Heap) (n0 : Nat) : Option Value → Heap → List Loc → Prop := fun v h L => v = some (.ref a1) ∧ Fr n0 L ∧ Keep h0 h [a1] ∧ Fld Z h a1 kNK "number" "I" (.int i1) ∧ Fld Z h a1 kNK "bytes" "[B" (.ref x2) ∧ Fld Z h a1 kNK "start" "I" (.int i3) ∧ Fld Z h a1 kNK "end" "I" (.int i4) ∧ Fld Z h a1 kNK "hash" "I" (.int (own_hash i1 gb s0 l0))
set_option maxRecDepth 65536 in
set_option maxHeartbeats 40000000 in
theorem rm_pointN (l : Launch) (Z : State) (a0 : Array Value) (hw : ∀ d ∈ tables_1, d.before a0 Z = true) (a1 : Addr) (i1 : Int32) (x2 : Addr) (i3 : Int32) (i4 : Int32) (gb : Nat → Int32) (s0 : Nat) (l0 : Nat) (f1 : Int32) (f2 : Int32) (f3 : Int32) (f4 : Int32) (h0 : Heap) (n0 : Nat) (Z0 : n0 ≤ h0.size) (P0 : Exa Z h0 a1 kNK) (P1 : Fld Z h0 a1 kNK "number" "I" (.int f1)) (P2 : Fld Z h0 a1 kNK "bytes" "[B" .null) (P3 : Fld Z h0 a1 kNK "start" "I" (.int f2)) (P4 : Fld Z h0 a1 kNK "end" "I" (.int f3)) (P5 : Fld Z h0 a1 kNK "hash" "I" (.int f4)) (P6 : ArF Z h0 x2 .byte 4 (fun i => .int (gb i))) (ne_x2_a1 : x2 ≠ a1) (ge_a1 : n0 ≤ a1) (hs : i3.toInt = (s0 : Int)) (he : i4.toInt = ((s0 + l0 : Nat) : Int)) (hl : s0 + l0 ≤ 4) :
    Con l Z (⟨"com/example/tweak_tags/tweaktags/NameKey", "point", "(I[BII)Lcom/example/tweak_tags/tweaktags/NameKey;"⟩ : MethodName) prog_78_method_3_code 7 (some (.object "com/example/tweak_tags/tweaktags/NameKey")) ({ frames := 0, cells := 0, slots := 0, locals := 0 } : Room) #[(.ref a1), (.int i1), (.ref x2), (.int i3), (.int i4)] h0 (Q_rm_pointN Z a1 i1 x2 i3 i4 gb s0 l0 f1 f2 f3 f4 h0 n0) := by
  refine meet (y := (⟨"com/example/tweak_tags/tweaktags/NameKey", "point", "(I[BII)Lcom/example/tweak_tags/tweaktags/NameKey;"⟩ : MethodName)) (Q := Q_rm_pointN Z a1 i1 x2 i3 i4 gb s0 l0 f1 f2 f3 f4 h0 n0) (plainFor_of_name pn_com_example_tweak_tags_tweaktags_NameKey) (fun m => ef_rm_pointN m a1 i1 x2 i3 i4) ?_
  intro p e s m below meth c T0 hx hby hml hZ hown hnm hret hlk X0 e0
  have N0 := Fr.nil n0
  have K0 := Keep.refl h0 [a1]
  refine g_aloadN X0 hx hby d5_0 (pc' := 1) rfl rfl rfl ?_
  refine g_iloadN X0 hx hby d5_1 (pc' := 2) rfl rfl ?_
  refine g_putf X0 hx hby hZ hown (host := "") (Or.inl (wi hw 22 rfl)) Via.refl e0 P1 P0 (Or.inl (wi hw 23 rfl)) (wi hw 9 rfl) (ty := .int) (by decide) rfl rfl d5_2 (pc' := 5) rfl ?_
  intro T1 h1 X1 e1 W1 F1
  refine g_aloadN X1 hx hby d5_5 (pc' := 6) rfl rfl rfl ?_
  refine g_aloadN X1 hx hby d5_6 (pc' := 7) rfl rfl rfl ?_
  have f2 := (P2.other W1 (Or.inr (sn0 hw)))
  have f3 := P0.wr W1
  refine g_putf X1 hx hby hZ hown (host := "") (Or.inl (wi hw 24 rfl)) Via.refl e1 f2 f3 (Or.inl (wi hw 25 rfl)) (wi hw 9 rfl) (ty := (.array .byte)) (by decide) rfl rfl d5_7 (pc' := 10) rfl ?_
  intro T4 h4 X4 e4 W4 F4
  refine g_aloadN X4 hx hby d5_10 (pc' := 11) rfl rfl rfl ?_
  refine g_iloadN X4 hx hby d5_11 (pc' := 12) rfl rfl ?_
  have f5 := ((P3.other W1 (Or.inr (sn1 hw))).other W4 (Or.inr (sn2 hw)))
  have f6 := f3.wr W4
  refine g_putf X4 hx hby hZ hown (host := "") (Or.inl (wi hw 26 rfl)) Via.refl e4 f5 f6 (Or.inl (wi hw 27 rfl)) (wi hw 9 rfl) (ty := .int) (by decide) rfl rfl d5_12 (pc' := 15) rfl ?_
  intro T7 h7 X7 e7 W7 F7
  refine g_aloadN X7 hx hby d5_15 (pc' := 16) rfl rfl rfl ?_
  refine g_iload X7 hx hby d5_16 (pc' := 18) rfl rfl ?_
  have f8 := (((P4.other W1 (Or.inr (sn3 hw))).other W4 (Or.inr (sn4 hw))).other W7 (Or.inr (sn5 hw)))
  have f9 := f6.wr W7
  refine g_putf X7 hx hby hZ hown (host := "") (Or.inl (wi hw 28 rfl)) Via.refl e7 f8 f9 (Or.inl (wi hw 29 rfl)) (wi hw 9 rfl) (ty := .int) (by decide) rfl rfl d5_18 (pc' := 21) rfl ?_
  intro T10 h10 X10 e10 W10 F10
  have z11 : n0 ≤ h10.size := (Nat.le_trans (Nat.le_trans (Nat.le_trans (Nat.le_trans Z0 (Nat.le_of_eq (Wr.size W1).symm)) (Nat.le_of_eq (Wr.size W4).symm)) (Nat.le_of_eq (Wr.size W7).symm)) (Nat.le_of_eq (Wr.size W10).symm))
  have K12 : Keep h0 h10 [a1] := ((((K0.wr W1 (Or.inl (List.mem_of_getElem? (i := 0) rfl))).wr W4 (Or.inl (List.mem_of_getElem? (i := 0) rfl))).wr W7 (Or.inl (List.mem_of_getElem? (i := 0) rfl))).wr W10 (Or.inl (List.mem_of_getElem? (i := 0) rfl)))
  refine g_iloadN X10 hx hby d5_21 (pc' := 22) rfl rfl ?_
  refine g_istore X10 hx hby d5_22 (pc' := 24) rfl (L' := #[.val (.ref a1), .val (.int i1), .val (.ref x2), .val (.int i3), .val (.int i4), .val (.int i1), .unset]) rfl ?_
  refine g_iloadN X10 hx hby d5_24 (pc' := 25) rfl rfl ?_
  refine g_istore X10 hx hby d5_25 (pc' := 27) rfl (L' := #[.val (.ref a1), .val (.int i1), .val (.ref x2), .val (.int i3), .val (.int i4), .val (.int i1), .val (.int i3)]) rfl ?_
  refine Go.loop (α := State × (List Loc) × Int32 × Int32 × Nat) (P := fun kq x => (fun (Tj27 : State) (Lj27 : List Loc) (hv : Int32) (iv : Int32) (kd : Nat) => Stand p l e ({ frames := 0, cells := 0, slots := 0, locals := 0 } : Room) s m #[(.ref a1), (.int i1), (.ref x2), (.int i3), (.int i4)] below meth c Tj27 Lj27 0 0 ∧ Tj27.heap = h10 ∧ Fr n0 Lj27 ∧ (iv.toInt = ((s0 + kd : Nat) : Int) ∧ kd ≤ l0 ∧ kq = l0 - kd ∧ hv = own_hash i1 gb s0 kd)) x.1 x.2.1 x.2.2.1 x.2.2.2.1 x.2.2.2.2) (F := fun x => (fun (Tj27 : State) (Lj27 : List Loc) (hv : Int32) (iv : Int32) (kd : Nat) => Tj27.setTop (mkF m 27 #[.val (.ref a1), .val (.int i1), .val (.ref x2), .val (.int i3), .val (.int i4), .val (.int hv), .val (.int iv)] [])) x.1 x.2.1 x.2.2.1 x.2.2.2.1 x.2.2.2.2) ?_ (l0) (T10, _, i1, i3, 0) ⟨X10.more (by decide) (by decide), e10, (Fr.snoc X10 (Fr.snoc X7 (Fr.snoc X4 (Fr.snoc X1 N0 ge_a1) ge_a1) ge_a1) ge_a1), (show i3.toInt = ((s0 + 0 : Nat) : Int) ∧ 0 ≤ l0 ∧ (l0) = l0 - 0 ∧ i1 = own_hash i1 gb s0 0 from ⟨hs, by omega, rfl, rfl⟩)⟩
  rintro kq ⟨Tj27, Lj27, hv, iv, kd⟩ hP27 IH27
  obtain ⟨Xj27, ej27, Nj27, hJ27⟩ : Stand p l e ({ frames := 0, cells := 0, slots := 0, locals := 0 } : Room) s m #[(.ref a1), (.int i1), (.ref x2), (.int i3), (.int i4)] below meth c Tj27 Lj27 0 0 ∧ Tj27.heap = h10 ∧ Fr n0 Lj27 ∧ (iv.toInt = ((s0 + kd : Nat) : Int) ∧ kd ≤ l0 ∧ kq = l0 - kd ∧ hv = own_hash i1 gb s0 kd) := hP27
  show Go p.tables e below s _ _ _ (Tj27.setTop (mkF m 27 #[.val (.ref a1), .val (.int i1), .val (.ref x2), .val (.int i3), .val (.int i4), .val (.int hv), .val (.int iv)] []))
  obtain ⟨hiv, hkd, hkq, hhv⟩ := hJ27
  refine g_iload Xj27 hx hby d5_27 (pc' := 29) rfl rfl ?_
  refine g_iload Xj27 hx hby d5_29 (pc' := 31) rfl rfl ?_
  by_cases hc31 : iv.toInt < i4.toInt
  · refine g_icmpNo Xj27 hx hby d5_31 (pc' := 34) (tlt (show iv < i4 from Int32.lt_iff_toInt_lt.mpr hc31)).2.1 rfl ?_
    refine g_bipush Xj27 hx hby d5_34 (pc' := 36) rfl (z := (31 : Int32)) rfl ?_
    refine g_iload Xj27 hx hby d5_36 (pc' := 38) rfl rfl ?_
    refine g_imul Xj27 hx hby d5_38 (pc' := 39) rfl rfl ?_
    refine g_aloadN Xj27 hx hby d5_39 (pc' := 40) rfl rfl rfl ?_
    refine g_iload Xj27 hx hby d5_40 (pc' := 42) rfl rfl ?_
    have f13 := ((((P6.other W1 ne_x2_a1).other W4 ne_x2_a1).other W7 ne_x2_a1).other W10 ne_x2_a1)
    refine Go.baload Xj27 hx hZ ej27 f13 (k := (s0 + kd)) hiv (by omega) rfl (hb hby d5_42) (pc' := 43) rfl ?_
    refine g_iadd Xj27 hx hby d5_43 (pc' := 44) rfl rfl ?_
    generalize hv14 : (((31 : Int32) * hv) + (gb (s0 + kd))) = v14
    refine g_istore Xj27 hx hby d5_44 (pc' := 46) rfl (L' := #[.val (.ref a1), .val (.int i1), .val (.ref x2), .val (.int i3), .val (.int i4), .val (.int v14), .val (.int iv)]) rfl ?_
    refine g_iinc Xj27 hx hby d5_46 (pc' := 49) rfl rfl (L' := #[.val (.ref a1), .val (.int i1), .val (.ref x2), .val (.int i3), .val (.int i4), .val (.int v14), .val (.int (iv + (1 : Int32)))]) rfl ?_
    refine g_goto Xj27 hx hby d5_49 (pc' := 27) (by decide) (by decide) ?_
    exact IH27 (l0 - (kd + 1)) (Tj27, _, v14, (iv + (1 : Int32)), (kd + 1)) (by omega) ⟨Xj27.more (by decide) (by decide), ej27, Nj27, (show (iv + (1 : Int32)).toInt = ((s0 + (kd + 1) : Nat) : Int) ∧ (kd + 1) ≤ l0 ∧ (l0 - (kd + 1)) = l0 - (kd + 1) ∧ v14 = own_hash i1 gb s0 (kd + 1) from ⟨by have : ((iv + (1 : Int32)).toInt - (iv.toInt + (1))) % 4294967296 = 0 := c_iadd _ _; have : -2147483648 ≤ (iv + (1 : Int32)).toInt ∧ (iv + (1 : Int32)).toInt < 2147483648 := rng32 _; have : -2147483648 ≤ iv.toInt ∧ iv.toInt < 2147483648 := rng32 _; omega, by omega, by omega, by rw [← hv14, hhv]; rfl⟩)⟩
  · refine g_icmpYes Xj27 hx hby d5_31 (pc' := 52) (flt (show ¬ (iv < i4) from fun q => hc31 (Int32.lt_iff_toInt_lt.mp q))).2.1 (by decide) (by decide) ?_
    have hke : kd = l0 := by omega
    subst hke
    subst hhv
    show Go p.tables e below s _ _ _ (Tj27.setTop (mkF m 52 #[.val (.ref a1), .val (.int i1), .val (.ref x2), .val (.int i3), .val (.int i4), .val (.int (own_hash i1 gb s0 kd)), .val (.int iv)] []))
    refine g_aloadN Xj27 hx hby d5_52 (pc' := 53) rfl rfl rfl ?_
    refine g_iload Xj27 hx hby d5_53 (pc' := 55) rfl rfl ?_
    have f15 := ((((P5.other W1 (Or.inr (sn6 hw))).other W4 (Or.inr (sn7 hw))).other W7 (Or.inr (sn8 hw))).other W10 (Or.inr (sn9 hw)))
    have f16 := f9.wr W10
    refine g_putf Xj27 hx hby hZ hown (host := "") (Or.inl (wi hw 30 rfl)) Via.refl ej27 f15 f16 (Or.inl (wi hw 31 rfl)) (wi hw 9 rfl) (ty := .int) (by decide) rfl rfl d5_55 (pc' := 58) rfl ?_
    intro T17 h17 X17 e17 W17 F17
    refine g_aloadN X17 hx hby d5_58 (pc' := 59) rfl rfl rfl ?_
    refine Go.retA X17 hx hlk hret rfl rfl (hb hby d5_59) (by decide) (by decide) ?_
    rw [e17]
    have f18 := ((((F1.other W4 (Or.inr (sn10 hw))).other W7 (Or.inr (sn11 hw))).other W10 (Or.inr (sn12 hw))).other W17 (Or.inr (sn13 hw)))
    have f19 := (((F4.other W7 (Or.inr (sn14 hw))).other W10 (Or.inr (sn15 hw))).other W17 (Or.inr (sn16 hw)))
    have f20 := ((F7.other W10 (Or.inr (sn17 hw))).other W17 (Or.inr (sn18 hw)))
    have f21 := (F10.other W17 (Or.inr (sn19 hw)))
    exact ⟨rfl, (Fr.snoc X17 Nj27 ge_a1), (K12.wr W17 (Or.inl (List.mem_of_getElem? (i := 0) rfl))), f18, f19, f20, f21, F17⟩
theorem ef_rm_pointR (m : MethodId) (x0 : Addr) (x1 : Int32) (x2 : Addr) (x3 : Int32) (x4 : Int32) : entryFrame m #[(.ref x0), (.int x1), (.ref x2), (.int x3), (.int x4)] 7 = mkF m 0 #[.val (.ref x0), .val (.int x1), .val (.ref x2), .val (.int x3), .val (.int x4), .unset, .unset] [] := by first | (simp [entryFrame, mkF, argsToLocals, Value.category]; done) | rfl
abbrev Q_rm_pointR (Z : State) (a1 : Addr) (i1 : Int32) (x2 : Addr) (i3 : Int32) (i4 : Int32) (gb : Nat → Int32) (s0 : Nat) (l0 : Nat) (f1 : Int32) (f2 : Int32) (f3 : Int32) (f4 : Int32) (y9 : Addr) (h0 : Heap) (n0 : Nat) : Option Value → Heap → List Loc → Prop := fun v h L => v = some (.ref a1) ∧ Fr n0 L ∧ Keep h0 h [a1] ∧ Fld Z h a1 kNK "number" "I" (.int i1) ∧ Fld Z h a1 kNK "bytes" "[B" (.ref x2) ∧ Fld Z h a1 kNK "start" "I" (.int i3) ∧ Fld Z h a1 kNK "end" "I" (.int i4) ∧ Fld Z h a1 kNK "hash" "I" (.int (own_hash i1 gb s0 l0))
set_option maxRecDepth 65536 in
set_option maxHeartbeats 40000000 in
theorem rm_pointR (l : Launch) (Z : State) (a0 : Array Value) (hw : ∀ d ∈ tables_1, d.before a0 Z = true) (a1 : Addr) (i1 : Int32) (x2 : Addr) (i3 : Int32) (i4 : Int32) (gb : Nat → Int32) (s0 : Nat) (l0 : Nat) (f1 : Int32) (f2 : Int32) (f3 : Int32) (f4 : Int32) (y9 : Addr) (h0 : Heap) (n0 : Nat) (Z0 : n0 ≤ h0.size) (P0 : Exa Z h0 a1 kNK) (P1 : Fld Z h0 a1 kNK "number" "I" (.int f1)) (P2 : Fld Z h0 a1 kNK "bytes" "[B" (.ref y9)) (P3 : Fld Z h0 a1 kNK "start" "I" (.int f2)) (P4 : Fld Z h0 a1 kNK "end" "I" (.int f3)) (P5 : Fld Z h0 a1 kNK "hash" "I" (.int f4)) (P6 : ArF Z h0 x2 .byte 4 (fun i => .int (gb i))) (ne_x2_a1 : x2 ≠ a1) (ge_a1 : n0 ≤ a1) (hs : i3.toInt = (s0 : Int)) (he : i4.toInt = ((s0 + l0 : Nat) : Int)) (hl : s0 + l0 ≤ 4) :
    Con l Z (⟨"com/example/tweak_tags/tweaktags/NameKey", "point", "(I[BII)Lcom/example/tweak_tags/tweaktags/NameKey;"⟩ : MethodName) prog_78_method_3_code 7 (some (.object "com/example/tweak_tags/tweaktags/NameKey")) ({ frames := 0, cells := 0, slots := 0, locals := 0 } : Room) #[(.ref a1), (.int i1), (.ref x2), (.int i3), (.int i4)] h0 (Q_rm_pointR Z a1 i1 x2 i3 i4 gb s0 l0 f1 f2 f3 f4 y9 h0 n0) := by
  refine meet (y := (⟨"com/example/tweak_tags/tweaktags/NameKey", "point", "(I[BII)Lcom/example/tweak_tags/tweaktags/NameKey;"⟩ : MethodName)) (Q := Q_rm_pointR Z a1 i1 x2 i3 i4 gb s0 l0 f1 f2 f3 f4 y9 h0 n0) (plainFor_of_name pn_com_example_tweak_tags_tweaktags_NameKey) (fun m => ef_rm_pointR m a1 i1 x2 i3 i4) ?_
  intro p e s m below meth c T0 hx hby hml hZ hown hnm hret hlk X0 e0
  have N0 := Fr.nil n0
  have K0 := Keep.refl h0 [a1]
  refine g_aloadN X0 hx hby d5_0 (pc' := 1) rfl rfl rfl ?_
  refine g_iloadN X0 hx hby d5_1 (pc' := 2) rfl rfl ?_
  refine g_putf X0 hx hby hZ hown (host := "") (Or.inl (wi hw 22 rfl)) Via.refl e0 P1 P0 (Or.inl (wi hw 23 rfl)) (wi hw 9 rfl) (ty := .int) (by decide) rfl rfl d5_2 (pc' := 5) rfl ?_
  intro T1 h1 X1 e1 W1 F1
  refine g_aloadN X1 hx hby d5_5 (pc' := 6) rfl rfl rfl ?_
  refine g_aloadN X1 hx hby d5_6 (pc' := 7) rfl rfl rfl ?_
  have f2 := (P2.other W1 (Or.inr (sn0 hw)))
  have f3 := P0.wr W1
  refine g_putf X1 hx hby hZ hown (host := "") (Or.inl (wi hw 24 rfl)) Via.refl e1 f2 f3 (Or.inl (wi hw 25 rfl)) (wi hw 9 rfl) (ty := (.array .byte)) (by decide) rfl rfl d5_7 (pc' := 10) rfl ?_
  intro T4 h4 X4 e4 W4 F4
  refine g_aloadN X4 hx hby d5_10 (pc' := 11) rfl rfl rfl ?_
  refine g_iloadN X4 hx hby d5_11 (pc' := 12) rfl rfl ?_
  have f5 := ((P3.other W1 (Or.inr (sn1 hw))).other W4 (Or.inr (sn2 hw)))
  have f6 := f3.wr W4
  refine g_putf X4 hx hby hZ hown (host := "") (Or.inl (wi hw 26 rfl)) Via.refl e4 f5 f6 (Or.inl (wi hw 27 rfl)) (wi hw 9 rfl) (ty := .int) (by decide) rfl rfl d5_12 (pc' := 15) rfl ?_
  intro T7 h7 X7 e7 W7 F7
  refine g_aloadN X7 hx hby d5_15 (pc' := 16) rfl rfl rfl ?_
  refine g_iload X7 hx hby d5_16 (pc' := 18) rfl rfl ?_
  have f8 := (((P4.other W1 (Or.inr (sn3 hw))).other W4 (Or.inr (sn4 hw))).other W7 (Or.inr (sn5 hw)))
  have f9 := f6.wr W7
  refine g_putf X7 hx hby hZ hown (host := "") (Or.inl (wi hw 28 rfl)) Via.refl e7 f8 f9 (Or.inl (wi hw 29 rfl)) (wi hw 9 rfl) (ty := .int) (by decide) rfl rfl d5_18 (pc' := 21) rfl ?_
  intro T10 h10 X10 e10 W10 F10
  have z11 : n0 ≤ h10.size := (Nat.le_trans (Nat.le_trans (Nat.le_trans (Nat.le_trans Z0 (Nat.le_of_eq (Wr.size W1).symm)) (Nat.le_of_eq (Wr.size W4).symm)) (Nat.le_of_eq (Wr.size W7).symm)) (Nat.le_of_eq (Wr.size W10).symm))
  have K12 : Keep h0 h10 [a1] := ((((K0.wr W1 (Or.inl (List.mem_of_getElem? (i := 0) rfl))).wr W4 (Or.inl (List.mem_of_getElem? (i := 0) rfl))).wr W7 (Or.inl (List.mem_of_getElem? (i := 0) rfl))).wr W10 (Or.inl (List.mem_of_getElem? (i := 0) rfl)))
  refine g_iloadN X10 hx hby d5_21 (pc' := 22) rfl rfl ?_
  refine g_istore X10 hx hby d5_22 (pc' := 24) rfl (L' := #[.val (.ref a1), .val (.int i1), .val (.ref x2), .val (.int i3), .val (.int i4), .val (.int i1), .unset]) rfl ?_
  refine g_iloadN X10 hx hby d5_24 (pc' := 25) rfl rfl ?_
  refine g_istore X10 hx hby d5_25 (pc' := 27) rfl (L' := #[.val (.ref a1), .val (.int i1), .val (.ref x2), .val (.int i3), .val (.int i4), .val (.int i1), .val (.int i3)]) rfl ?_
  refine Go.loop (α := State × (List Loc) × Int32 × Int32 × Nat) (P := fun kq x => (fun (Tj27 : State) (Lj27 : List Loc) (hv : Int32) (iv : Int32) (kd : Nat) => Stand p l e ({ frames := 0, cells := 0, slots := 0, locals := 0 } : Room) s m #[(.ref a1), (.int i1), (.ref x2), (.int i3), (.int i4)] below meth c Tj27 Lj27 0 0 ∧ Tj27.heap = h10 ∧ Fr n0 Lj27 ∧ (iv.toInt = ((s0 + kd : Nat) : Int) ∧ kd ≤ l0 ∧ kq = l0 - kd ∧ hv = own_hash i1 gb s0 kd)) x.1 x.2.1 x.2.2.1 x.2.2.2.1 x.2.2.2.2) (F := fun x => (fun (Tj27 : State) (Lj27 : List Loc) (hv : Int32) (iv : Int32) (kd : Nat) => Tj27.setTop (mkF m 27 #[.val (.ref a1), .val (.int i1), .val (.ref x2), .val (.int i3), .val (.int i4), .val (.int hv), .val (.int iv)] [])) x.1 x.2.1 x.2.2.1 x.2.2.2.1 x.2.2.2.2) ?_ (l0) (T10, _, i1, i3, 0) ⟨X10.more (by decide) (by decide), e10, (Fr.snoc X10 (Fr.snoc X7 (Fr.snoc X4 (Fr.snoc X1 N0 ge_a1) ge_a1) ge_a1) ge_a1), (show i3.toInt = ((s0 + 0 : Nat) : Int) ∧ 0 ≤ l0 ∧ (l0) = l0 - 0 ∧ i1 = own_hash i1 gb s0 0 from ⟨hs, by omega, rfl, rfl⟩)⟩
  rintro kq ⟨Tj27, Lj27, hv, iv, kd⟩ hP27 IH27
  obtain ⟨Xj27, ej27, Nj27, hJ27⟩ : Stand p l e ({ frames := 0, cells := 0, slots := 0, locals := 0 } : Room) s m #[(.ref a1), (.int i1), (.ref x2), (.int i3), (.int i4)] below meth c Tj27 Lj27 0 0 ∧ Tj27.heap = h10 ∧ Fr n0 Lj27 ∧ (iv.toInt = ((s0 + kd : Nat) : Int) ∧ kd ≤ l0 ∧ kq = l0 - kd ∧ hv = own_hash i1 gb s0 kd) := hP27
  show Go p.tables e below s _ _ _ (Tj27.setTop (mkF m 27 #[.val (.ref a1), .val (.int i1), .val (.ref x2), .val (.int i3), .val (.int i4), .val (.int hv), .val (.int iv)] []))
  obtain ⟨hiv, hkd, hkq, hhv⟩ := hJ27
  refine g_iload Xj27 hx hby d5_27 (pc' := 29) rfl rfl ?_
  refine g_iload Xj27 hx hby d5_29 (pc' := 31) rfl rfl ?_
  by_cases hc31 : iv.toInt < i4.toInt
  · refine g_icmpNo Xj27 hx hby d5_31 (pc' := 34) (tlt (show iv < i4 from Int32.lt_iff_toInt_lt.mpr hc31)).2.1 rfl ?_
    refine g_bipush Xj27 hx hby d5_34 (pc' := 36) rfl (z := (31 : Int32)) rfl ?_
    refine g_iload Xj27 hx hby d5_36 (pc' := 38) rfl rfl ?_
    refine g_imul Xj27 hx hby d5_38 (pc' := 39) rfl rfl ?_
    refine g_aloadN Xj27 hx hby d5_39 (pc' := 40) rfl rfl rfl ?_
    refine g_iload Xj27 hx hby d5_40 (pc' := 42) rfl rfl ?_
    have f13 := ((((P6.other W1 ne_x2_a1).other W4 ne_x2_a1).other W7 ne_x2_a1).other W10 ne_x2_a1)
    refine Go.baload Xj27 hx hZ ej27 f13 (k := (s0 + kd)) hiv (by omega) rfl (hb hby d5_42) (pc' := 43) rfl ?_
    refine g_iadd Xj27 hx hby d5_43 (pc' := 44) rfl rfl ?_
    generalize hv14 : (((31 : Int32) * hv) + (gb (s0 + kd))) = v14
    refine g_istore Xj27 hx hby d5_44 (pc' := 46) rfl (L' := #[.val (.ref a1), .val (.int i1), .val (.ref x2), .val (.int i3), .val (.int i4), .val (.int v14), .val (.int iv)]) rfl ?_
    refine g_iinc Xj27 hx hby d5_46 (pc' := 49) rfl rfl (L' := #[.val (.ref a1), .val (.int i1), .val (.ref x2), .val (.int i3), .val (.int i4), .val (.int v14), .val (.int (iv + (1 : Int32)))]) rfl ?_
    refine g_goto Xj27 hx hby d5_49 (pc' := 27) (by decide) (by decide) ?_
    exact IH27 (l0 - (kd + 1)) (Tj27, _, v14, (iv + (1 : Int32)), (kd + 1)) (by omega) ⟨Xj27.more (by decide) (by decide), ej27, Nj27, (show (iv + (1 : Int32)).toInt = ((s0 + (kd + 1) : Nat) : Int) ∧ (kd + 1) ≤ l0 ∧ (l0 - (kd + 1)) = l0 - (kd + 1) ∧ v14 = own_hash i1 gb s0 (kd + 1) from ⟨by have : ((iv + (1 : Int32)).toInt - (iv.toInt + (1))) % 4294967296 = 0 := c_iadd _ _; have : -2147483648 ≤ (iv + (1 : Int32)).toInt ∧ (iv + (1 : Int32)).toInt < 2147483648 := rng32 _; have : -2147483648 ≤ iv.toInt ∧ iv.toInt < 2147483648 := rng32 _; omega, by omega, by omega, by rw [← hv14, hhv]; rfl⟩)⟩
  · refine g_icmpYes Xj27 hx hby d5_31 (pc' := 52) (flt (show ¬ (iv < i4) from fun q => hc31 (Int32.lt_iff_toInt_lt.mp q))).2.1 (by decide) (by decide) ?_
    have hke : kd = l0 := by omega
    subst hke
    subst hhv
    show Go p.tables e below s _ _ _ (Tj27.setTop (mkF m 52 #[.val (.ref a1), .val (.int i1), .val (.ref x2), .val (.int i3), .val (.int i4), .val (.int (own_hash i1 gb s0 kd)), .val (.int iv)] []))
    refine g_aloadN Xj27 hx hby d5_52 (pc' := 53) rfl rfl rfl ?_
    refine g_iload Xj27 hx hby d5_53 (pc' := 55) rfl rfl ?_
    have f15 := ((((P5.other W1 (Or.inr (sn6 hw))).other W4 (Or.inr (sn7 hw))).other W7 (Or.inr (sn8 hw))).other W10 (Or.inr (sn9 hw)))
    have f16 := f9.wr W10
    refine g_putf Xj27 hx hby hZ hown (host := "") (Or.inl (wi hw 30 rfl)) Via.refl ej27 f15 f16 (Or.inl (wi hw 31 rfl)) (wi hw 9 rfl) (ty := .int) (by decide) rfl rfl d5_55 (pc' := 58) rfl ?_
    intro T17 h17 X17 e17 W17 F17
    refine g_aloadN X17 hx hby d5_58 (pc' := 59) rfl rfl rfl ?_
    refine Go.retA X17 hx hlk hret rfl rfl (hb hby d5_59) (by decide) (by decide) ?_
    rw [e17]
    have f18 := ((((F1.other W4 (Or.inr (sn10 hw))).other W7 (Or.inr (sn11 hw))).other W10 (Or.inr (sn12 hw))).other W17 (Or.inr (sn13 hw)))
    have f19 := (((F4.other W7 (Or.inr (sn14 hw))).other W10 (Or.inr (sn15 hw))).other W17 (Or.inr (sn16 hw)))
    have f20 := ((F7.other W10 (Or.inr (sn17 hw))).other W17 (Or.inr (sn18 hw)))
    have f21 := (F10.other W17 (Or.inr (sn19 hw)))
    exact ⟨rfl, (Fr.snoc X17 Nj27 ge_a1), (K12.wr W17 (Or.inl (List.mem_of_getElem? (i := 0) rfl))), f18, f19, f20, f21, F17⟩
theorem d3_0 : decode prog_78_method_2_code 0 = .ok (.aload_n 0, 1) := by decide +kernel
theorem d3_1 : decode prog_78_method_2_code 1 = .ok (.invokespecial 7, 3) := by decide +kernel
theorem d3_4 : decode prog_78_method_2_code 4 = .ok (.aload_n 0, 1) := by decide +kernel
theorem d3_5 : decode prog_78_method_2_code 5 = .ok (.iload_n 1, 1) := by decide +kernel
theorem d3_6 : decode prog_78_method_2_code 6 = .ok (.aload_n 2, 1) := by decide +kernel
theorem d3_7 : decode prog_78_method_2_code 7 = .ok (.iload_n 3, 1) := by decide +kernel
theorem d3_8 : decode prog_78_method_2_code 8 = .ok (.iload 4, 2) := by decide +kernel
theorem d3_10 : decode prog_78_method_2_code 10 = .ok (.invokevirtual 12, 3) := by decide +kernel
theorem pd0 : parseMethodDescriptor "(I[BII)Lcom/example/tweak_tags/tweaktags/NameKey;" = some ⟨[.int, (.array .byte), .int, .int], some (.object "com/example/tweak_tags/tweaktags/NameKey")⟩ := by decide +kernel
theorem d3_13 : decode prog_78_method_2_code 13 = .ok (.pop, 1) := by decide +kernel
theorem d3_14 : decode prog_78_method_2_code 14 = .ok (.return_, 1) := by decide +kernel
theorem ef_rm_init (m : MethodId) (x0 : Addr) (x1 : Int32) (x2 : Addr) (x3 : Int32) (x4 : Int32) : entryFrame m #[(.ref x0), (.int x1), (.ref x2), (.int x3), (.int x4)] 5 = mkF m 0 #[.val (.ref x0), .val (.int x1), .val (.ref x2), .val (.int x3), .val (.int x4)] [] := by first | (simp [entryFrame, mkF, argsToLocals, Value.category]; done) | rfl
abbrev Q_rm_init (Z : State) (a1 : Addr) (i1 : Int32) (x2 : Addr) (i3 : Int32) (i4 : Int32) (gb : Nat → Int32) (s0 : Nat) (l0 : Nat) (h0 : Heap) (n0 : Nat) : Option Value → Heap → List Loc → Prop := fun v h L => v = none ∧ Fr n0 L ∧ Keep h0 h [a1] ∧ Fld Z h a1 kNK "number" "I" (.int i1) ∧ Fld Z h a1 kNK "bytes" "[B" (.ref x2) ∧ Fld Z h a1 kNK "start" "I" (.int i3) ∧ Fld Z h a1 kNK "end" "I" (.int i4) ∧ Fld Z h a1 kNK "hash" "I" (.int (own_hash i1 gb s0 l0))
set_option maxRecDepth 65536 in
set_option maxHeartbeats 40000000 in
theorem rm_init (l : Launch) (Z : State) (a0 : Array Value) (hw : ∀ d ∈ tables_1, d.before a0 Z = true) (a1 : Addr) (i1 : Int32) (x2 : Addr) (i3 : Int32) (i4 : Int32) (gb : Nat → Int32) (s0 : Nat) (l0 : Nat) (h0 : Heap) (n0 : Nat) (Z0 : n0 ≤ h0.size) (P0 : Exa Z h0 a1 kNK) (P1 : Fld Z h0 a1 kNK "number" "I" (.int (0 : Int32))) (P2 : Fld Z h0 a1 kNK "bytes" "[B" .null) (P3 : Fld Z h0 a1 kNK "start" "I" (.int (0 : Int32))) (P4 : Fld Z h0 a1 kNK "end" "I" (.int (0 : Int32))) (P5 : Fld Z h0 a1 kNK "hash" "I" (.int (0 : Int32))) (P6 : ArF Z h0 x2 .byte 4 (fun i => .int (gb i))) (ne_x2_a1 : x2 ≠ a1) (ge_a1 : n0 ≤ a1) (hs : i3.toInt = (s0 : Int)) (he : i4.toInt = ((s0 + l0 : Nat) : Int)) (hl : s0 + l0 ≤ 4) :
    Con l Z (⟨"com/example/tweak_tags/tweaktags/NameKey", "<init>", "(I[BII)V"⟩ : MethodName) prog_78_method_2_code 5 none ({ frames := 1, cells := 0, slots := 0, locals := 18 } : Room) #[(.ref a1), (.int i1), (.ref x2), (.int i3), (.int i4)] h0 (Q_rm_init Z a1 i1 x2 i3 i4 gb s0 l0 h0 n0) := by
  refine meet (y := (⟨"com/example/tweak_tags/tweaktags/NameKey", "<init>", "(I[BII)V"⟩ : MethodName)) (Q := Q_rm_init Z a1 i1 x2 i3 i4 gb s0 l0 h0 n0) (plainFor_of_name pn_com_example_tweak_tags_tweaktags_NameKey) (fun m => ef_rm_init m a1 i1 x2 i3 i4) ?_
  intro p e s m below meth c T0 hx hby hml hZ hown hnm hret hlk X0 e0
  have N0 := Fr.nil n0
  have K0 := Keep.refl h0 [a1]
  refine g_aloadN X0 hx hby d3_0 (pc' := 1) rfl rfl rfl ?_
  refine g_init X0 hx hby hZ hown (wi hw 14 rfl) (wi hw 15 rfl) (wi hw 16 rfl) e0 (by rw [hml]; rfl) d3_1 (pc' := 4) rfl (by decide) (W := 0) rfl (by decide) ?_
  intro T1 X1 e1
  refine g_aloadN X1 hx hby d3_4 (pc' := 5) rfl rfl rfl ?_
  refine g_iloadN X1 hx hby d3_5 (pc' := 6) rfl rfl ?_
  refine g_aloadN X1 hx hby d3_6 (pc' := 7) rfl rfl rfl ?_
  refine g_iloadN X1 hx hby d3_7 (pc' := 8) rfl rfl ?_
  refine g_iload X1 hx hby d3_8 (pc' := 10) rfl rfl ?_
  refine Go.callV X1 hx hZ hown (wi hw 17 rfl) (wi hw 18 rfl) (notFace_of_selects (args := #[]) (mvT hZ (wi hw 20 rfl))) (wi hw 20 rfl) (wi hw 19 rfl) (wi hw 10 rfl) (wi hw 21 rfl) (by decide) e1 (a := a1) (argsL := [(.int i1), (.ref x2), (.int i3), (.int i4)]) (rest := []) (W := 0) P0 (rm_pointN l Z a0 hw a1 i1 x2 i3 i4 gb s0 l0 (0 : Int32) (0 : Int32) (0 : Int32) (0 : Int32) h0 n0 Z0 P0 P1 P2 P3 P4 P5 P6 ne_x2_a1 ge_a1 hs he (by omega)) (hb hby d3_10) (by rw [hml]; rfl) rfl pd0 rfl rfl (by decide) (by decide) (by decide) (by decide) ?_
  intro v2 T2 L2 X2 hQ2
  obtain ⟨h2, e2⟩ : ∃ z, T2.heap = z := ⟨_, rfl⟩
  rw [e2] at hQ2
  obtain ⟨rfl, Nq2, Kq2, Fq0_2, Fq1_2, Fq2_2, Fq3_2, Fq4_2⟩ := hQ2
  have N2 := Fr.app N0 Nq2
  refine Go.push (pc' := 13) rfl ?_
  refine g_pop X2 hx hby d3_13 (pc' := 14) rfl rfl ?_
  refine Go.retV X2 hx hlk hret (hb hby d3_14) rfl (by decide) (by decide) ?_
  rw [e2]
  exact ⟨rfl, N2, (K0.trans Kq2 (allS (Or.inl (List.mem_of_getElem? (i := 0) rfl)) all0)), Fq0_2, Fq1_2, Fq2_2, Fq3_2, Fq4_2⟩
theorem d6_0 : decode prog_78_method_5_code 0 = .ok (.aload_n 0, 1) := by decide +kernel
theorem d6_1 : decode prog_78_method_5_code 1 = .ok (.getfield 30, 3) := by decide +kernel
theorem d6_4 : decode prog_78_method_5_code 4 = .ok (.ireturn, 1) := by decide +kernel
theorem ef_rm_hc (m : MethodId) (x0 : Addr) : entryFrame m #[(.ref x0)] 1 = mkF m 0 #[.val (.ref x0)] [] := by first | (simp [entryFrame, mkF, argsToLocals, Value.category]; done) | rfl
abbrev Q_rm_hc (Z : State) (a1 : Addr) (f1 : Int32) (h0 : Heap) (n0 : Nat) : Option Value → Heap → List Loc → Prop := fun v h L => v = some (.int f1) ∧ Fr n0 L ∧ h = h0
set_option maxRecDepth 65536 in
set_option maxHeartbeats 40000000 in
theorem rm_hc (l : Launch) (Z : State) (a0 : Array Value) (hw : ∀ d ∈ tables_1, d.before a0 Z = true) (a1 : Addr) (f1 : Int32) (h0 : Heap) (n0 : Nat) (Z0 : n0 ≤ h0.size) (P0 : Fld Z h0 a1 kNK "hash" "I" (.int f1)) :
    Con l Z (⟨"com/example/tweak_tags/tweaktags/NameKey", "hashCode", "()I"⟩ : MethodName) prog_78_method_5_code 1 (some .int) ({ frames := 0, cells := 0, slots := 0, locals := 0 } : Room) #[(.ref a1)] h0 (Q_rm_hc Z a1 f1 h0 n0) := by
  refine meet (y := (⟨"com/example/tweak_tags/tweaktags/NameKey", "hashCode", "()I"⟩ : MethodName)) (Q := Q_rm_hc Z a1 f1 h0 n0) (plainFor_of_name pn_com_example_tweak_tags_tweaktags_NameKey) (fun m => ef_rm_hc m a1) ?_
  intro p e s m below meth c T0 hx hby hml hZ hown hnm hret hlk X0 e0
  have N0 := Fr.nil n0
  refine g_aloadN X0 hx hby d6_0 (pc' := 1) rfl rfl rfl ?_
  refine g_getf X0 hx hby hZ hown (host := "") (Or.inl (wi hw 30 rfl)) Via.refl e0 P0 d6_1 (pc' := 4) rfl ?_
  intro T1 X1 e1
  refine Go.retI X1 hx hlk hret (hb hby d6_4) (by decide) (by decide) ?_
  exact ⟨rfl, N0, e1⟩
theorem d9_0 : decode jdk_65_method_30_code 0 = .ok (.iload_n 1, 1) := by decide +kernel
theorem d9_1 : decode jdk_65_method_30_code 1 = .ok (.iload_n 2, 1) := by decide +kernel
theorem d9_2 : decode jdk_65_method_30_code 2 = .ok (.if_icmp .le 44, 3) := by decide +kernel
theorem d9_46 : decode jdk_65_method_30_code 46 = .ok (.iload_n 1, 1) := by decide +kernel
theorem d9_47 : decode jdk_65_method_30_code 47 = .ok (.ifCond .ge 12, 3) := by decide +kernel
theorem d9_59 : decode jdk_65_method_30_code 59 = .ok (.iload_n 2, 1) := by decide +kernel
theorem d9_60 : decode jdk_65_method_30_code 60 = .ok (.iload_n 0, 1) := by decide +kernel
theorem d9_61 : decode jdk_65_method_30_code 61 = .ok (.if_icmp .le 12, 3) := by decide +kernel
theorem d9_73 : decode jdk_65_method_30_code 73 = .ok (.return_, 1) := by decide +kernel
theorem ef_rm_rc (m : MethodId) (x0 : Int32) (x1 : Int32) (x2 : Int32) : entryFrame m #[(.int x0), (.int x1), (.int x2)] 3 = mkF m 0 #[.val (.int x0), .val (.int x1), .val (.int x2)] [] := by first | (simp [entryFrame, mkF, argsToLocals, Value.category]; done) | rfl
theorem pn_java_util_Arrays : plainName "java/util/Arrays" = true := by first | (simp [plainName, overriddenIn]; done) | decide +kernel
abbrev Q_rm_rc (Z : State) (i1 : Int32) (i2 : Int32) (i3 : Int32) (h0 : Heap) (n0 : Nat) : Option Value → Heap → List Loc → Prop := fun v h L => v = none ∧ Fr n0 L ∧ h = h0
set_option maxRecDepth 65536 in
set_option maxHeartbeats 40000000 in
theorem rm_rc (l : Launch) (Z : State) (a0 : Array Value) (hw : ∀ d ∈ tables_1, d.before a0 Z = true) (i1 : Int32) (i2 : Int32) (i3 : Int32) (h0 : Heap) (n0 : Nat) (Z0 : n0 ≤ h0.size) (y1 : i2.toInt ≤ i3.toInt) (y2 : 0 ≤ i2.toInt) (y3 : i3.toInt ≤ i1.toInt) :
    Con l Z (⟨"java/util/Arrays", "rangeCheck", "(III)V"⟩ : MethodName) jdk_65_method_30_code 3 none ({ frames := 0, cells := 0, slots := 0, locals := 0 } : Room) #[(.int i1), (.int i2), (.int i3)] h0 (Q_rm_rc Z i1 i2 i3 h0 n0) := by
  refine meet (y := (⟨"java/util/Arrays", "rangeCheck", "(III)V"⟩ : MethodName)) (Q := Q_rm_rc Z i1 i2 i3 h0 n0) (plainFor_of_name pn_java_util_Arrays) (fun m => ef_rm_rc m i1 i2 i3) ?_
  intro p e s m below meth c T0 hx hby hml hZ hown hnm hret hlk X0 e0
  have N0 := Fr.nil n0
  refine g_iloadN X0 hx hby d9_0 (pc' := 1) rfl rfl ?_
  refine g_iloadN X0 hx hby d9_1 (pc' := 2) rfl rfl ?_
  have hc2 : ¬ (i3.toInt < i2.toInt) := by omega
  refine g_icmpYes X0 hx hby d9_2 (pc' := 46) (flt (show ¬ (i3 < i2) from fun q => hc2 (Int32.lt_iff_toInt_lt.mp q))).2.2.2 (by decide) (by decide) ?_
  refine g_iloadN X0 hx hby d9_46 (pc' := 47) rfl rfl ?_
  have hc47 : ¬ (i2.toInt < (0 : Int)) := by omega
  refine g_ifYes X0 hx hby d9_47 (pc' := 59) (flt (show ¬ (i2 < (0 : Int32)) from fun q => hc47 (Int32.lt_iff_toInt_lt.mp q))).2.1 (by decide) (by decide) ?_
  refine g_iloadN X0 hx hby d9_59 (pc' := 60) rfl rfl ?_
  refine g_iloadN X0 hx hby d9_60 (pc' := 61) rfl rfl ?_
  have hc61 : ¬ (i1.toInt < i3.toInt) := by omega
  refine g_icmpYes X0 hx hby d9_61 (pc' := 73) (flt (show ¬ (i1 < i3) from fun q => hc61 (Int32.lt_iff_toInt_lt.mp q))).2.2.2 (by decide) (by decide) ?_
  refine Go.retV X0 hx hlk hret (hb hby d9_73) rfl (by decide) (by decide) ?_
  exact ⟨rfl, N0, e0⟩
theorem d10_0 : decode jdk_48_method_14_code 0 = .ok (.iconst 0, 1) := by decide +kernel
theorem d10_1 : decode jdk_48_method_14_code 1 = .ok (.istore 5, 2) := by decide +kernel
theorem d10_3 : decode jdk_48_method_14_code 3 = .ok (.iload 4, 2) := by decide +kernel
theorem d10_5 : decode jdk_48_method_14_code 5 = .ok (.bipush 7, 2) := by decide +kernel
theorem d10_7 : decode jdk_48_method_14_code 7 = .ok (.if_icmp .le 63, 3) := by decide +kernel
theorem d10_70 : decode jdk_48_method_14_code 70 = .ok (.iload 5, 2) := by decide +kernel
theorem d10_72 : decode jdk_48_method_14_code 72 = .ok (.iload 4, 2) := by decide +kernel
theorem d10_74 : decode jdk_48_method_14_code 74 = .ok (.if_icmp .ge 27, 3) := by decide +kernel
theorem d10_77 : decode jdk_48_method_14_code 77 = .ok (.aload_n 0, 1) := by decide +kernel
theorem d10_78 : decode jdk_48_method_14_code 78 = .ok (.iload_n 1, 1) := by decide +kernel
theorem d10_79 : decode jdk_48_method_14_code 79 = .ok (.iload 5, 2) := by decide +kernel
theorem d10_81 : decode jdk_48_method_14_code 81 = .ok (.iadd, 1) := by decide +kernel
theorem d10_82 : decode jdk_48_method_14_code 82 = .ok (.baload, 1) := by decide +kernel
theorem d10_83 : decode jdk_48_method_14_code 83 = .ok (.aload_n 2, 1) := by decide +kernel
theorem d10_84 : decode jdk_48_method_14_code 84 = .ok (.iload_n 3, 1) := by decide +kernel
theorem d10_85 : decode jdk_48_method_14_code 85 = .ok (.iload 5, 2) := by decide +kernel
theorem d10_87 : decode jdk_48_method_14_code 87 = .ok (.iadd, 1) := by decide +kernel
theorem d10_88 : decode jdk_48_method_14_code 88 = .ok (.baload, 1) := by decide +kernel
theorem d10_89 : decode jdk_48_method_14_code 89 = .ok (.if_icmp .eq 6, 3) := by decide +kernel
theorem d10_95 : decode jdk_48_method_14_code 95 = .ok (.iinc 5 1, 3) := by decide +kernel
theorem d10_98 : decode jdk_48_method_14_code 98 = .ok (.goto (-28), 3) := by decide +kernel
theorem d10_101 : decode jdk_48_method_14_code 101 = .ok (.iconst (-1), 1) := by decide +kernel
theorem d10_102 : decode jdk_48_method_14_code 102 = .ok (.ireturn, 1) := by decide +kernel
theorem ef_rm_mm (m : MethodId) (x0 : Addr) (x1 : Int32) (x2 : Addr) (x3 : Int32) (x4 : Int32) : entryFrame m #[(.ref x0), (.int x1), (.ref x2), (.int x3), (.int x4)] 8 = mkF m 0 #[.val (.ref x0), .val (.int x1), .val (.ref x2), .val (.int x3), .val (.int x4), .unset, .unset, .unset] [] := by first | (simp [entryFrame, mkF, argsToLocals, Value.category]; done) | rfl
theorem pn_jdk_internal_util_ArraysSupport : plainName "jdk/internal/util/ArraysSupport" = true := by first | (simp [plainName, overriddenIn]; done) | decide +kernel
abbrev Q_rm_mm (Z : State) (x1 : Addr) (i1 : Int32) (x2 : Addr) (i2 : Int32) (i5 : Int32) (g1 : Nat → Int32) (g2 : Nat → Int32) (s1 : Nat) (s2 : Nat) (l0 : Nat) (h0 : Heap) (n0 : Nat) : Option Value → Heap → List Loc → Prop := fun v h L => v = some (.int (-1 : Int32)) ∧ Fr n0 L ∧ h = h0
set_option maxRecDepth 65536 in
set_option maxHeartbeats 40000000 in
theorem rm_mm (l : Launch) (Z : State) (a0 : Array Value) (hw : ∀ d ∈ tables_1, d.before a0 Z = true) (x1 : Addr) (i1 : Int32) (x2 : Addr) (i2 : Int32) (i5 : Int32) (g1 : Nat → Int32) (g2 : Nat → Int32) (s1 : Nat) (s2 : Nat) (l0 : Nat) (h0 : Heap) (n0 : Nat) (Z0 : n0 ≤ h0.size) (P0 : ArF Z h0 x1 .byte 4 (fun i => .int (g1 i))) (P1 : ArF Z h0 x2 .byte 4 (fun i => .int (g2 i))) (ua1 : i1.toInt = (s1 : Int)) (ua2 : i2.toInt = (s2 : Int)) (ua5 : i5.toInt = (l0 : Int)) (hl1 : s1 + l0 ≤ 4) (hl2 : s2 + l0 ≤ 4) (hE : ∀ k, k < l0 → g1 (s1 + k) = g2 (s2 + k)) :
    Con l Z (⟨"jdk/internal/util/ArraysSupport", "mismatch", "([BI[BII)I"⟩ : MethodName) jdk_48_method_14_code 8 (some .int) ({ frames := 0, cells := 0, slots := 0, locals := 0 } : Room) #[(.ref x1), (.int i1), (.ref x2), (.int i2), (.int i5)] h0 (Q_rm_mm Z x1 i1 x2 i2 i5 g1 g2 s1 s2 l0 h0 n0) := by
  refine meet (y := (⟨"jdk/internal/util/ArraysSupport", "mismatch", "([BI[BII)I"⟩ : MethodName)) (Q := Q_rm_mm Z x1 i1 x2 i2 i5 g1 g2 s1 s2 l0 h0 n0) (plainFor_of_name pn_jdk_internal_util_ArraysSupport) (fun m => ef_rm_mm m x1 i1 x2 i2 i5) ?_
  intro p e s m below meth c T0 hx hby hml hZ hown hnm hret hlk X0 e0
  have N0 := Fr.nil n0
  refine g_iconst X0 hx hby d10_0 (pc' := 1) rfl (z := (0 : Int32)) rfl ?_
  refine g_istore X0 hx hby d10_1 (pc' := 3) rfl (L' := #[.val (.ref x1), .val (.int i1), .val (.ref x2), .val (.int i2), .val (.int i5), .val (.int (0 : Int32)), .unset, .unset]) rfl ?_
  refine g_iload X0 hx hby d10_3 (pc' := 5) rfl rfl ?_
  refine g_bipush X0 hx hby d10_5 (pc' := 7) rfl (z := (7 : Int32)) rfl ?_
  have hc7 : ¬ ((7 : Int) < i5.toInt) := by omega
  refine g_icmpYes X0 hx hby d10_7 (pc' := 70) (flt (show ¬ ((7 : Int32) < i5) from fun q => hc7 (Int32.lt_iff_toInt_lt.mp q))).2.2.2 (by decide) (by decide) ?_
  refine Go.loop (α := State × (List Loc) × Int32 × Nat) (P := fun kq x => (fun (Tj70 : State) (Lj70 : List Loc) (iv : Int32) (kd : Nat) => Stand p l e ({ frames := 0, cells := 0, slots := 0, locals := 0 } : Room) s m #[(.ref x1), (.int i1), (.ref x2), (.int i2), (.int i5)] below meth c Tj70 Lj70 0 0 ∧ Tj70.heap = h0 ∧ Fr n0 Lj70 ∧ (iv.toInt = (kd : Int) ∧ kd ≤ l0 ∧ kq = l0 - kd)) x.1 x.2.1 x.2.2.1 x.2.2.2) (F := fun x => (fun (Tj70 : State) (Lj70 : List Loc) (iv : Int32) (kd : Nat) => Tj70.setTop (mkF m 70 #[.val (.ref x1), .val (.int i1), .val (.ref x2), .val (.int i2), .val (.int i5), .val (.int iv), .unset, .unset] [])) x.1 x.2.1 x.2.2.1 x.2.2.2) ?_ (l0) (T0, _, (0 : Int32), 0) ⟨X0.more (by decide) (by decide), e0, N0, (show (0 : Int32).toInt = (0 : Int) ∧ 0 ≤ l0 ∧ (l0) = l0 - 0 from ⟨rfl, by omega, rfl⟩)⟩
  rintro kq ⟨Tj70, Lj70, iv, kd⟩ hP70 IH70
  obtain ⟨Xj70, ej70, Nj70, hJ70⟩ : Stand p l e ({ frames := 0, cells := 0, slots := 0, locals := 0 } : Room) s m #[(.ref x1), (.int i1), (.ref x2), (.int i2), (.int i5)] below meth c Tj70 Lj70 0 0 ∧ Tj70.heap = h0 ∧ Fr n0 Lj70 ∧ (iv.toInt = (kd : Int) ∧ kd ≤ l0 ∧ kq = l0 - kd) := hP70
  show Go p.tables e below s _ _ _ (Tj70.setTop (mkF m 70 #[.val (.ref x1), .val (.int i1), .val (.ref x2), .val (.int i2), .val (.int i5), .val (.int iv), .unset, .unset] []))
  obtain ⟨hiv, hkd, hkq⟩ := hJ70
  refine g_iload Xj70 hx hby d10_70 (pc' := 72) rfl rfl ?_
  refine g_iload Xj70 hx hby d10_72 (pc' := 74) rfl rfl ?_
  by_cases hc74 : iv.toInt < i5.toInt
  · refine g_icmpNo Xj70 hx hby d10_74 (pc' := 77) (tlt (show iv < i5 from Int32.lt_iff_toInt_lt.mpr hc74)).2.1 rfl ?_
    refine g_aloadN Xj70 hx hby d10_77 (pc' := 78) rfl rfl rfl ?_
    refine g_iloadN Xj70 hx hby d10_78 (pc' := 79) rfl rfl ?_
    refine g_iload Xj70 hx hby d10_79 (pc' := 81) rfl rfl ?_
    refine g_iadd Xj70 hx hby d10_81 (pc' := 82) rfl rfl ?_
    refine Go.baload Xj70 hx hZ ej70 P0 (k := (s1 + kd)) (by have : ((i1 + iv).toInt - (i1.toInt + iv.toInt)) % 4294967296 = 0 := c_iadd _ _; have : -2147483648 ≤ (i1 + iv).toInt ∧ (i1 + iv).toInt < 2147483648 := rng32 _; have : -2147483648 ≤ i1.toInt ∧ i1.toInt < 2147483648 := rng32 _; have : -2147483648 ≤ iv.toInt ∧ iv.toInt < 2147483648 := rng32 _; omega) (by omega) rfl (hb hby d10_82) (pc' := 83) rfl ?_
    refine g_aloadN Xj70 hx hby d10_83 (pc' := 84) rfl rfl rfl ?_
    refine g_iloadN Xj70 hx hby d10_84 (pc' := 85) rfl rfl ?_
    refine g_iload Xj70 hx hby d10_85 (pc' := 87) rfl rfl ?_
    refine g_iadd Xj70 hx hby d10_87 (pc' := 88) rfl rfl ?_
    refine Go.baload Xj70 hx hZ ej70 P1 (k := (s2 + kd)) (by have : ((i2 + iv).toInt - (i2.toInt + iv.toInt)) % 4294967296 = 0 := c_iadd _ _; have : -2147483648 ≤ (i2 + iv).toInt ∧ (i2 + iv).toInt < 2147483648 := rng32 _; have : -2147483648 ≤ i2.toInt ∧ i2.toInt < 2147483648 := rng32 _; have : -2147483648 ≤ iv.toInt ∧ iv.toInt < 2147483648 := rng32 _; omega) (by omega) rfl (hb hby d10_88) (pc' := 89) rfl ?_
    have hc89 : (g1 (s1 + kd)).toInt = (g2 (s2 + kd)).toInt := congrArg Int32.toInt (hE kd (by omega))
    refine g_icmpYes Xj70 hx hby d10_89 (pc' := 95) (teq (show (g1 (s1 + kd)) = (g2 (s2 + kd)) from Int32.toInt_inj.mp hc89)).1 (by decide) (by decide) ?_
    refine g_iinc Xj70 hx hby d10_95 (pc' := 98) rfl rfl (L' := #[.val (.ref x1), .val (.int i1), .val (.ref x2), .val (.int i2), .val (.int i5), .val (.int (iv + (1 : Int32))), .unset, .unset]) rfl ?_
    refine g_goto Xj70 hx hby d10_98 (pc' := 70) (by decide) (by decide) ?_
    exact IH70 (l0 - (kd + 1)) (Tj70, _, (iv + (1 : Int32)), (kd + 1)) (by omega) ⟨Xj70.more (by decide) (by decide), ej70, Nj70, (show (iv + (1 : Int32)).toInt = ((kd + 1) : Int) ∧ (kd + 1) ≤ l0 ∧ (l0 - (kd + 1)) = l0 - (kd + 1) from ⟨by have : ((iv + (1 : Int32)).toInt - (iv.toInt + (1))) % 4294967296 = 0 := c_iadd _ _; have : -2147483648 ≤ (iv + (1 : Int32)).toInt ∧ (iv + (1 : Int32)).toInt < 2147483648 := rng32 _; have : -2147483648 ≤ iv.toInt ∧ iv.toInt < 2147483648 := rng32 _; omega, by omega, by omega⟩)⟩
  · refine g_icmpYes Xj70 hx hby d10_74 (pc' := 101) (flt (show ¬ (iv < i5) from fun q => hc74 (Int32.lt_iff_toInt_lt.mp q))).2.1 (by decide) (by decide) ?_
    refine g_iconst Xj70 hx hby d10_101 (pc' := 102) rfl (z := (-1 : Int32)) rfl ?_
    refine Go.retI Xj70 hx hlk hret (hb hby d10_102) (by decide) (by decide) ?_
    exact ⟨rfl, Nj70, ej70⟩
theorem d8_0 : decode jdk_65_method_90_code 0 = .ok (.aload_n 0, 1) := by decide +kernel
theorem d8_1 : decode jdk_65_method_90_code 1 = .ok (.arraylength, 1) := by decide +kernel
theorem d8_2 : decode jdk_65_method_90_code 2 = .ok (.iload_n 1, 1) := by decide +kernel
theorem d8_3 : decode jdk_65_method_90_code 3 = .ok (.iload_n 2, 1) := by decide +kernel
theorem d8_4 : decode jdk_65_method_90_code 4 = .ok (.invokestatic 13, 3) := by decide +kernel
theorem pd1 : parseMethodDescriptor "(III)V" = some ⟨[.int, .int, .int], none⟩ := by decide +kernel
theorem d8_7 : decode jdk_65_method_90_code 7 = .ok (.aload_n 3, 1) := by decide +kernel
theorem d8_8 : decode jdk_65_method_90_code 8 = .ok (.arraylength, 1) := by decide +kernel
theorem d8_9 : decode jdk_65_method_90_code 9 = .ok (.iload 4, 2) := by decide +kernel
theorem d8_11 : decode jdk_65_method_90_code 11 = .ok (.iload 5, 2) := by decide +kernel
theorem d8_13 : decode jdk_65_method_90_code 13 = .ok (.invokestatic 13, 3) := by decide +kernel
theorem d8_16 : decode jdk_65_method_90_code 16 = .ok (.iload_n 2, 1) := by decide +kernel
theorem d8_17 : decode jdk_65_method_90_code 17 = .ok (.iload_n 1, 1) := by decide +kernel
theorem d8_18 : decode jdk_65_method_90_code 18 = .ok (.isub, 1) := by decide +kernel
theorem d8_19 : decode jdk_65_method_90_code 19 = .ok (.istore 6, 2) := by decide +kernel
theorem d8_21 : decode jdk_65_method_90_code 21 = .ok (.iload 5, 2) := by decide +kernel
theorem d8_23 : decode jdk_65_method_90_code 23 = .ok (.iload 4, 2) := by decide +kernel
theorem d8_25 : decode jdk_65_method_90_code 25 = .ok (.isub, 1) := by decide +kernel
theorem d8_26 : decode jdk_65_method_90_code 26 = .ok (.istore 7, 2) := by decide +kernel
theorem d8_28 : decode jdk_65_method_90_code 28 = .ok (.iload 6, 2) := by decide +kernel
theorem d8_30 : decode jdk_65_method_90_code 30 = .ok (.iload 7, 2) := by decide +kernel
theorem d8_32 : decode jdk_65_method_90_code 32 = .ok (.if_icmp .eq 5, 3) := by decide +kernel
theorem d8_37 : decode jdk_65_method_90_code 37 = .ok (.aload_n 0, 1) := by decide +kernel
theorem d8_38 : decode jdk_65_method_90_code 38 = .ok (.iload_n 1, 1) := by decide +kernel
theorem d8_39 : decode jdk_65_method_90_code 39 = .ok (.aload_n 3, 1) := by decide +kernel
theorem d8_40 : decode jdk_65_method_90_code 40 = .ok (.iload 4, 2) := by decide +kernel
theorem d8_42 : decode jdk_65_method_90_code 42 = .ok (.iload 6, 2) := by decide +kernel
theorem d8_44 : decode jdk_65_method_90_code 44 = .ok (.invokestatic 275, 3) := by decide +kernel
theorem pd2 : parseMethodDescriptor "([BI[BII)I" = some ⟨[(.array .byte), .int, (.array .byte), .int, .int], some .int⟩ := by decide +kernel
theorem d8_47 : decode jdk_65_method_90_code 47 = .ok (.ifCond .ge 7, 3) := by decide +kernel
theorem d8_50 : decode jdk_65_method_90_code 50 = .ok (.iconst 1, 1) := by decide +kernel
theorem d8_51 : decode jdk_65_method_90_code 51 = .ok (.goto 4, 3) := by decide +kernel
theorem d8_55 : decode jdk_65_method_90_code 55 = .ok (.ireturn, 1) := by decide +kernel
theorem ef_rm_aeq (m : MethodId) (x0 : Addr) (x1 : Int32) (x2 : Int32) (x3 : Addr) (x4 : Int32) (x5 : Int32) : entryFrame m #[(.ref x0), (.int x1), (.int x2), (.ref x3), (.int x4), (.int x5)] 8 = mkF m 0 #[.val (.ref x0), .val (.int x1), .val (.int x2), .val (.ref x3), .val (.int x4), .val (.int x5), .unset, .unset] [] := by first | (simp [entryFrame, mkF, argsToLocals, Value.category]; done) | rfl
abbrev Q_rm_aeq (Z : State) (x1 : Addr) (i1 : Int32) (j1 : Int32) (x2 : Addr) (i2 : Int32) (j2 : Int32) (g1 : Nat → Int32) (g2 : Nat → Int32) (s1 : Nat) (s2 : Nat) (l0 : Nat) (h0 : Heap) (n0 : Nat) : Option Value → Heap → List Loc → Prop := fun v h L => v = some (.int (1 : Int32)) ∧ Fr n0 L ∧ h = h0
set_option maxRecDepth 65536 in
set_option maxHeartbeats 40000000 in
theorem rm_aeq (l : Launch) (Z : State) (a0 : Array Value) (hw : ∀ d ∈ tables_1, d.before a0 Z = true) (x1 : Addr) (i1 : Int32) (j1 : Int32) (x2 : Addr) (i2 : Int32) (j2 : Int32) (g1 : Nat → Int32) (g2 : Nat → Int32) (s1 : Nat) (s2 : Nat) (l0 : Nat) (h0 : Heap) (n0 : Nat) (Z0 : n0 ≤ h0.size) (P0 : ArF Z h0 x1 .byte 4 (fun i => .int (g1 i))) (P1 : ArF Z h0 x2 .byte 4 (fun i => .int (g2 i))) (ua1 : i1.toInt = (s1 : Int)) (ue1 : j1.toInt = ((s1 + l0 : Nat) : Int)) (ua2 : i2.toInt = (s2 : Int)) (ue2 : j2.toInt = ((s2 + l0 : Nat) : Int)) (hl1 : s1 + l0 ≤ 4) (hl2 : s2 + l0 ≤ 4) (hE : ∀ k, k < l0 → g1 (s1 + k) = g2 (s2 + k)) :
    Con l Z (⟨"java/util/Arrays", "equals", "([BII[BII)Z"⟩ : MethodName) jdk_65_method_90_code 8 (some .boolean) ({ frames := 1, cells := 0, slots := 0, locals := 19 } : Room) #[(.ref x1), (.int i1), (.int j1), (.ref x2), (.int i2), (.int j2)] h0 (Q_rm_aeq Z x1 i1 j1 x2 i2 j2 g1 g2 s1 s2 l0 h0 n0) := by
  refine meet (y := (⟨"java/util/Arrays", "equals", "([BII[BII)Z"⟩ : MethodName)) (Q := Q_rm_aeq Z x1 i1 j1 x2 i2 j2 g1 g2 s1 s2 l0 h0 n0) (plainFor_of_name pn_java_util_Arrays) (fun m => ef_rm_aeq m x1 i1 j1 x2 i2 j2) ?_
  intro p e s m below meth c T0 hx hby hml hZ hown hnm hret hlk X0 e0
  have N0 := Fr.nil n0
  refine g_aloadN X0 hx hby d8_0 (pc' := 1) rfl rfl rfl ?_
  refine Go.alen X0 hx hZ e0 P0 (z := (4 : Int32)) rfl (hb hby d8_1) (pc' := 2) rfl ?_
  refine g_iloadN X0 hx hby d8_2 (pc' := 3) rfl rfl ?_
  refine g_iloadN X0 hx hby d8_3 (pc' := 4) rfl rfl ?_
  refine Go.callS X0 hx hZ hown (wi hw 49 rfl) (wi hw 50 rfl) (wi hw 47 rfl) (wi hw 51 rfl) (by decide) e0 (argsL := [(.int (4 : Int32)), (.int i1), (.int j1)]) (rest := []) (W := 0) (rm_rc l Z a0 hw (4 : Int32) i1 j1 h0 n0 Z0 (by omega) (by omega) (by show _ ≤ (4 : Int); omega)) (hb hby d8_4) (by rw [hml]; rfl) rfl pd1 rfl rfl (by decide) (by decide) (by decide) (by decide) ?_
  intro v1 T1 L1 X1 hQ1
  obtain ⟨rfl, Nq1, hh1⟩ := hQ1
  have N1 := Fr.app N0 Nq1
  refine Go.void (pc' := 7) rfl ?_
  refine g_aloadN X1 hx hby d8_7 (pc' := 8) rfl rfl rfl ?_
  refine Go.alen X1 hx hZ hh1 P1 (z := (4 : Int32)) rfl (hb hby d8_8) (pc' := 9) rfl ?_
  refine g_iload X1 hx hby d8_9 (pc' := 11) rfl rfl ?_
  refine g_iload X1 hx hby d8_11 (pc' := 13) rfl rfl ?_
  refine Go.callS X1 hx hZ hown (wi hw 49 rfl) (wi hw 50 rfl) (wi hw 47 rfl) (wi hw 51 rfl) (by decide) hh1 (argsL := [(.int (4 : Int32)), (.int i2), (.int j2)]) (rest := []) (W := 0) (rm_rc l Z a0 hw (4 : Int32) i2 j2 h0 n0 Z0 (by omega) (by omega) (by show _ ≤ (4 : Int); omega)) (hb hby d8_13) (by rw [hml]; rfl) rfl pd1 rfl rfl (by decide) (by decide) (by decide) (by decide) ?_
  intro v2 T2 L2 X2 hQ2
  obtain ⟨rfl, Nq2, hh2⟩ := hQ2
  have N2 := Fr.app N1 Nq2
  refine Go.void (pc' := 16) rfl ?_
  refine g_iloadN X2 hx hby d8_16 (pc' := 17) rfl rfl ?_
  refine g_iloadN X2 hx hby d8_17 (pc' := 18) rfl rfl ?_
  refine g_isub X2 hx hby d8_18 (pc' := 19) rfl rfl ?_
  generalize hv3 : (j1 - i1) = v3
  refine g_istore X2 hx hby d8_19 (pc' := 21) rfl (L' := #[.val (.ref x1), .val (.int i1), .val (.int j1), .val (.ref x2), .val (.int i2), .val (.int j2), .val (.int v3), .unset]) rfl ?_
  refine g_iload X2 hx hby d8_21 (pc' := 23) rfl rfl ?_
  refine g_iload X2 hx hby d8_23 (pc' := 25) rfl rfl ?_
  refine g_isub X2 hx hby d8_25 (pc' := 26) rfl rfl ?_
  generalize hv4 : (j2 - i2) = v4
  refine g_istore X2 hx hby d8_26 (pc' := 28) rfl (L' := #[.val (.ref x1), .val (.int i1), .val (.int j1), .val (.ref x2), .val (.int i2), .val (.int j2), .val (.int v3), .val (.int v4)]) rfl ?_
  have hv6 : v3.toInt = (l0 : Int) := by rw [← hv3]; have : ((j1 - i1).toInt - (j1.toInt - i1.toInt)) % 4294967296 = 0 := c_isub _ _; have : -2147483648 ≤ (j1 - i1).toInt ∧ (j1 - i1).toInt < 2147483648 := rng32 _; have : -2147483648 ≤ j1.toInt ∧ j1.toInt < 2147483648 := rng32 _; have : -2147483648 ≤ i1.toInt ∧ i1.toInt < 2147483648 := rng32 _; omega
  have hv7 : v4.toInt = (l0 : Int) := by rw [← hv4]; have : ((j2 - i2).toInt - (j2.toInt - i2.toInt)) % 4294967296 = 0 := c_isub _ _; have : -2147483648 ≤ (j2 - i2).toInt ∧ (j2 - i2).toInt < 2147483648 := rng32 _; have : -2147483648 ≤ j2.toInt ∧ j2.toInt < 2147483648 := rng32 _; have : -2147483648 ≤ i2.toInt ∧ i2.toInt < 2147483648 := rng32 _; omega
  refine g_iload X2 hx hby d8_28 (pc' := 30) rfl rfl ?_
  refine g_iload X2 hx hby d8_30 (pc' := 32) rfl rfl ?_
  have hc32 : v3.toInt = v4.toInt := by omega
  refine g_icmpYes X2 hx hby d8_32 (pc' := 37) (teq (show v3 = v4 from Int32.toInt_inj.mp hc32)).1 (by decide) (by decide) ?_
  refine g_aloadN X2 hx hby d8_37 (pc' := 38) rfl rfl rfl ?_
  refine g_iloadN X2 hx hby d8_38 (pc' := 39) rfl rfl ?_
  refine g_aloadN X2 hx hby d8_39 (pc' := 40) rfl rfl rfl ?_
  refine g_iload X2 hx hby d8_40 (pc' := 42) rfl rfl ?_
  refine g_iload X2 hx hby d8_42 (pc' := 44) rfl rfl ?_
  refine Go.callS X2 hx hZ hown (wi hw 52 rfl) (wi hw 53 rfl) (wi hw 54 rfl) (wi hw 55 rfl) (by decide) hh2 (argsL := [(.ref x1), (.int i1), (.ref x2), (.int i2), (.int v3)]) (rest := []) (W := 0) (rm_mm l Z a0 hw x1 i1 x2 i2 v3 g1 g2 s1 s2 l0 h0 n0 Z0 P0 P1 ua1 ua2 hv6 (by omega) (by omega) hE) (hb hby d8_44) (by rw [hml]; rfl) rfl pd2 rfl rfl (by decide) (by decide) (by decide) (by decide) ?_
  intro v5 T5 L5 X5 hQ5
  obtain ⟨rfl, Nq5, hh5⟩ := hQ5
  have N5 := Fr.app N2 Nq5
  refine Go.push (pc' := 47) rfl ?_
  have hc47 : (-1 : Int) < (0 : Int) := by decide
  refine g_ifNo X5 hx hby d8_47 (pc' := 50) (tlt (show (-1 : Int32) < (0 : Int32) from Int32.lt_iff_toInt_lt.mpr hc47)).2.1 rfl ?_
  refine g_iconst X5 hx hby d8_50 (pc' := 51) rfl (z := (1 : Int32)) rfl ?_
  refine g_goto X5 hx hby d8_51 (pc' := 55) (by decide) (by decide) ?_
  refine Go.retZ X5 hx hlk hret (by simp) (hb hby d8_55) (by decide) (by decide) ?_
  exact ⟨rfl, N5, hh5⟩
theorem d14_0 : decode jdk_29_method_69_code 0 = .ok (.iload_n 0, 1) := by decide +kernel
theorem d14_1 : decode jdk_29_method_69_code 1 = .ok (.iload_n 1, 1) := by decide +kernel
theorem d14_2 : decode jdk_29_method_69_code 2 = .ok (.if_icmp .gt 7, 3) := by decide +kernel
theorem d14_5 : decode jdk_29_method_69_code 5 = .ok (.iload_n 0, 1) := by decide +kernel
theorem d14_6 : decode jdk_29_method_69_code 6 = .ok (.goto 4, 3) := by decide +kernel
theorem d14_10 : decode jdk_29_method_69_code 10 = .ok (.ireturn, 1) := by decide +kernel
theorem ef_rm_min (m : MethodId) (x0 : Int32) (x1 : Int32) : entryFrame m #[(.int x0), (.int x1)] 2 = mkF m 0 #[.val (.int x0), .val (.int x1)] [] := by first | (simp [entryFrame, mkF, argsToLocals, Value.category]; done) | rfl
abbrev Q_rm_min (Z : State) (i1 : Int32) (i2 : Int32) (h0 : Heap) (n0 : Nat) : Option Value → Heap → List Loc → Prop := fun v h L => v = some (.int i1) ∧ Fr n0 L ∧ h = h0
set_option maxRecDepth 65536 in
set_option maxHeartbeats 40000000 in
theorem rm_min (l : Launch) (Z : State) (a0 : Array Value) (hw : ∀ d ∈ tables_1, d.before a0 Z = true) (i1 : Int32) (i2 : Int32) (h0 : Heap) (n0 : Nat) (Z0 : n0 ≤ h0.size) (y1 : i1.toInt = i2.toInt) :
    Con l Z (⟨"java/lang/Math", "min", "(II)I"⟩ : MethodName) jdk_29_method_69_code 2 (some .int) ({ frames := 0, cells := 0, slots := 0, locals := 0 } : Room) #[(.int i1), (.int i2)] h0 (Q_rm_min Z i1 i2 h0 n0) := by
  refine meet (y := (⟨"java/lang/Math", "min", "(II)I"⟩ : MethodName)) (Q := Q_rm_min Z i1 i2 h0 n0) (Jvm.Free.JP.mathPlain rfl (by decide +kernel)) (fun m => ef_rm_min m i1 i2) ?_
  intro p e s m below meth c T0 hx hby hml hZ hown hnm hret hlk X0 e0
  have N0 := Fr.nil n0
  refine g_iloadN X0 hx hby d14_0 (pc' := 1) rfl rfl ?_
  refine g_iloadN X0 hx hby d14_1 (pc' := 2) rfl rfl ?_
  have hc2 : ¬ (i2.toInt < i1.toInt) := by omega
  refine g_icmpNo X0 hx hby d14_2 (pc' := 5) (flt (show ¬ (i2 < i1) from fun q => hc2 (Int32.lt_iff_toInt_lt.mp q))).2.2.1 rfl ?_
  refine g_iloadN X0 hx hby d14_5 (pc' := 6) rfl rfl ?_
  refine g_goto X0 hx hby d14_6 (pc' := 10) (by decide) (by decide) ?_
  refine Go.retI X0 hx hlk hret (hb hby d14_10) (by decide) (by decide) ?_
  exact ⟨rfl, N0, e0⟩
theorem d12_0 : decode jdk_33_method_40_code 0 = .ok (.iload_n 0, 1) := by decide +kernel
theorem d12_1 : decode jdk_33_method_40_code 1 = .ok (.iload_n 1, 1) := by decide +kernel
theorem d12_2 : decode jdk_33_method_40_code 2 = .ok (.if_icmp .ge 7, 3) := by decide +kernel
theorem d12_9 : decode jdk_33_method_40_code 9 = .ok (.iload_n 0, 1) := by decide +kernel
theorem d12_10 : decode jdk_33_method_40_code 10 = .ok (.iload_n 1, 1) := by decide +kernel
theorem d12_11 : decode jdk_33_method_40_code 11 = .ok (.if_icmp .ne 7, 3) := by decide +kernel
theorem d12_14 : decode jdk_33_method_40_code 14 = .ok (.iconst 0, 1) := by decide +kernel
theorem d12_15 : decode jdk_33_method_40_code 15 = .ok (.goto 4, 3) := by decide +kernel
theorem d12_19 : decode jdk_33_method_40_code 19 = .ok (.ireturn, 1) := by decide +kernel
theorem ef_rm_cmp (m : MethodId) (x0 : Int32) (x1 : Int32) : entryFrame m #[(.int x0), (.int x1)] 2 = mkF m 0 #[.val (.int x0), .val (.int x1)] [] := by first | (simp [entryFrame, mkF, argsToLocals, Value.category]; done) | rfl
theorem pn_java_lang_Integer : plainName "java/lang/Integer" = true := by first | (simp [plainName, overriddenIn]; done) | decide +kernel
abbrev Q_rm_cmp (Z : State) (i1 : Int32) (i2 : Int32) (h0 : Heap) (n0 : Nat) : Option Value → Heap → List Loc → Prop := fun v h L => v = some (.int (0 : Int32)) ∧ Fr n0 L ∧ h = h0
set_option maxRecDepth 65536 in
set_option maxHeartbeats 40000000 in
theorem rm_cmp (l : Launch) (Z : State) (a0 : Array Value) (hw : ∀ d ∈ tables_1, d.before a0 Z = true) (i1 : Int32) (i2 : Int32) (h0 : Heap) (n0 : Nat) (Z0 : n0 ≤ h0.size) (y1 : i1.toInt = i2.toInt) :
    Con l Z (⟨"java/lang/Integer", "compare", "(II)I"⟩ : MethodName) jdk_33_method_40_code 2 (some .int) ({ frames := 0, cells := 0, slots := 0, locals := 0 } : Room) #[(.int i1), (.int i2)] h0 (Q_rm_cmp Z i1 i2 h0 n0) := by
  refine meet (y := (⟨"java/lang/Integer", "compare", "(II)I"⟩ : MethodName)) (Q := Q_rm_cmp Z i1 i2 h0 n0) (plainFor_of_name pn_java_lang_Integer) (fun m => ef_rm_cmp m i1 i2) ?_
  intro p e s m below meth c T0 hx hby hml hZ hown hnm hret hlk X0 e0
  have N0 := Fr.nil n0
  refine g_iloadN X0 hx hby d12_0 (pc' := 1) rfl rfl ?_
  refine g_iloadN X0 hx hby d12_1 (pc' := 2) rfl rfl ?_
  have hc2 : ¬ (i1.toInt < i2.toInt) := by omega
  refine g_icmpYes X0 hx hby d12_2 (pc' := 9) (flt (show ¬ (i1 < i2) from fun q => hc2 (Int32.lt_iff_toInt_lt.mp q))).2.1 (by decide) (by decide) ?_
  refine g_iloadN X0 hx hby d12_9 (pc' := 10) rfl rfl ?_
  refine g_iloadN X0 hx hby d12_10 (pc' := 11) rfl rfl ?_
  have hc11 : i1.toInt = i2.toInt := y1
  refine g_icmpNo X0 hx hby d12_11 (pc' := 14) (teq (show i1 = i2 from Int32.toInt_inj.mp hc11)).2 rfl ?_
  refine g_iconst X0 hx hby d12_14 (pc' := 15) rfl (z := (0 : Int32)) rfl ?_
  refine g_goto X0 hx hby d12_15 (pc' := 19) (by decide) (by decide) ?_
  refine Go.retI X0 hx hlk hret (hb hby d12_19) (by decide) (by decide) ?_
  exact ⟨rfl, N0, e0⟩
theorem d13_0 : decode jdk_65_method_202_code 0 = .ok (.aload_n 0, 1) := by decide +kernel
theorem d13_1 : decode jdk_65_method_202_code 1 = .ok (.arraylength, 1) := by decide +kernel
theorem d13_2 : decode jdk_65_method_202_code 2 = .ok (.iload_n 1, 1) := by decide +kernel
theorem d13_3 : decode jdk_65_method_202_code 3 = .ok (.iload_n 2, 1) := by decide +kernel
theorem d13_4 : decode jdk_65_method_202_code 4 = .ok (.invokestatic 13, 3) := by decide +kernel
theorem d13_7 : decode jdk_65_method_202_code 7 = .ok (.aload_n 3, 1) := by decide +kernel
theorem d13_8 : decode jdk_65_method_202_code 8 = .ok (.arraylength, 1) := by decide +kernel
theorem d13_9 : decode jdk_65_method_202_code 9 = .ok (.iload 4, 2) := by decide +kernel
theorem d13_11 : decode jdk_65_method_202_code 11 = .ok (.iload 5, 2) := by decide +kernel
theorem d13_13 : decode jdk_65_method_202_code 13 = .ok (.invokestatic 13, 3) := by decide +kernel
theorem d13_16 : decode jdk_65_method_202_code 16 = .ok (.iload_n 2, 1) := by decide +kernel
theorem d13_17 : decode jdk_65_method_202_code 17 = .ok (.iload_n 1, 1) := by decide +kernel
theorem d13_18 : decode jdk_65_method_202_code 18 = .ok (.isub, 1) := by decide +kernel
theorem d13_19 : decode jdk_65_method_202_code 19 = .ok (.istore 6, 2) := by decide +kernel
theorem d13_21 : decode jdk_65_method_202_code 21 = .ok (.iload 5, 2) := by decide +kernel
theorem d13_23 : decode jdk_65_method_202_code 23 = .ok (.iload 4, 2) := by decide +kernel
theorem d13_25 : decode jdk_65_method_202_code 25 = .ok (.isub, 1) := by decide +kernel
theorem d13_26 : decode jdk_65_method_202_code 26 = .ok (.istore 7, 2) := by decide +kernel
theorem d13_28 : decode jdk_65_method_202_code 28 = .ok (.aload_n 0, 1) := by decide +kernel
theorem d13_29 : decode jdk_65_method_202_code 29 = .ok (.iload_n 1, 1) := by decide +kernel
theorem d13_30 : decode jdk_65_method_202_code 30 = .ok (.aload_n 3, 1) := by decide +kernel
theorem d13_31 : decode jdk_65_method_202_code 31 = .ok (.iload 4, 2) := by decide +kernel
theorem d13_33 : decode jdk_65_method_202_code 33 = .ok (.iload 6, 2) := by decide +kernel
theorem d13_35 : decode jdk_65_method_202_code 35 = .ok (.iload 7, 2) := by decide +kernel
theorem d13_37 : decode jdk_65_method_202_code 37 = .ok (.invokestatic 304, 3) := by decide +kernel
theorem pd3 : parseMethodDescriptor "(II)I" = some ⟨[.int, .int], some .int⟩ := by decide +kernel
theorem d13_40 : decode jdk_65_method_202_code 40 = .ok (.invokestatic 275, 3) := by decide +kernel
theorem d13_43 : decode jdk_65_method_202_code 43 = .ok (.istore 8, 2) := by decide +kernel
theorem d13_45 : decode jdk_65_method_202_code 45 = .ok (.iload 8, 2) := by decide +kernel
theorem d13_47 : decode jdk_65_method_202_code 47 = .ok (.ifCond .lt 20, 3) := by decide +kernel
theorem d13_67 : decode jdk_65_method_202_code 67 = .ok (.iload 6, 2) := by decide +kernel
theorem d13_69 : decode jdk_65_method_202_code 69 = .ok (.iload 7, 2) := by decide +kernel
theorem d13_71 : decode jdk_65_method_202_code 71 = .ok (.isub, 1) := by decide +kernel
theorem d13_72 : decode jdk_65_method_202_code 72 = .ok (.ireturn, 1) := by decide +kernel
theorem ef_rm_cun (m : MethodId) (x0 : Addr) (x1 : Int32) (x2 : Int32) (x3 : Addr) (x4 : Int32) (x5 : Int32) : entryFrame m #[(.ref x0), (.int x1), (.int x2), (.ref x3), (.int x4), (.int x5)] 9 = mkF m 0 #[.val (.ref x0), .val (.int x1), .val (.int x2), .val (.ref x3), .val (.int x4), .val (.int x5), .unset, .unset, .unset] [] := by first | (simp [entryFrame, mkF, argsToLocals, Value.category]; done) | rfl
abbrev Q_rm_cun (Z : State) (x1 : Addr) (i1 : Int32) (j1 : Int32) (x2 : Addr) (i2 : Int32) (j2 : Int32) (g1 : Nat → Int32) (g2 : Nat → Int32) (s1 : Nat) (s2 : Nat) (l0 : Nat) (h0 : Heap) (n0 : Nat) : Option Value → Heap → List Loc → Prop := fun v h L => v = some (.int (0 : Int32)) ∧ Fr n0 L ∧ h = h0
set_option maxRecDepth 65536 in
set_option maxHeartbeats 40000000 in
theorem rm_cun (l : Launch) (Z : State) (a0 : Array Value) (hw : ∀ d ∈ tables_1, d.before a0 Z = true) (x1 : Addr) (i1 : Int32) (j1 : Int32) (x2 : Addr) (i2 : Int32) (j2 : Int32) (g1 : Nat → Int32) (g2 : Nat → Int32) (s1 : Nat) (s2 : Nat) (l0 : Nat) (h0 : Heap) (n0 : Nat) (Z0 : n0 ≤ h0.size) (P0 : ArF Z h0 x1 .byte 4 (fun i => .int (g1 i))) (P1 : ArF Z h0 x2 .byte 4 (fun i => .int (g2 i))) (ua1 : i1.toInt = (s1 : Int)) (ue1 : j1.toInt = ((s1 + l0 : Nat) : Int)) (ua2 : i2.toInt = (s2 : Int)) (ue2 : j2.toInt = ((s2 + l0 : Nat) : Int)) (hl1 : s1 + l0 ≤ 4) (hl2 : s2 + l0 ≤ 4) (hE : ∀ k, k < l0 → g1 (s1 + k) = g2 (s2 + k)) :
    Con l Z (⟨"java/util/Arrays", "compareUnsigned", "([BII[BII)I"⟩ : MethodName) jdk_65_method_202_code 9 (some .int) ({ frames := 1, cells := 0, slots := 0, locals := 19 } : Room) #[(.ref x1), (.int i1), (.int j1), (.ref x2), (.int i2), (.int j2)] h0 (Q_rm_cun Z x1 i1 j1 x2 i2 j2 g1 g2 s1 s2 l0 h0 n0) := by
  refine meet (y := (⟨"java/util/Arrays", "compareUnsigned", "([BII[BII)I"⟩ : MethodName)) (Q := Q_rm_cun Z x1 i1 j1 x2 i2 j2 g1 g2 s1 s2 l0 h0 n0) (plainFor_of_name pn_java_util_Arrays) (fun m => ef_rm_cun m x1 i1 j1 x2 i2 j2) ?_
  intro p e s m below meth c T0 hx hby hml hZ hown hnm hret hlk X0 e0
  have N0 := Fr.nil n0
  refine g_aloadN X0 hx hby d13_0 (pc' := 1) rfl rfl rfl ?_
  refine Go.alen X0 hx hZ e0 P0 (z := (4 : Int32)) rfl (hb hby d13_1) (pc' := 2) rfl ?_
  refine g_iloadN X0 hx hby d13_2 (pc' := 3) rfl rfl ?_
  refine g_iloadN X0 hx hby d13_3 (pc' := 4) rfl rfl ?_
  refine Go.callS X0 hx hZ hown (wi hw 49 rfl) (wi hw 50 rfl) (wi hw 47 rfl) (wi hw 51 rfl) (by decide) e0 (argsL := [(.int (4 : Int32)), (.int i1), (.int j1)]) (rest := []) (W := 0) (rm_rc l Z a0 hw (4 : Int32) i1 j1 h0 n0 Z0 (by omega) (by omega) (by show _ ≤ (4 : Int); omega)) (hb hby d13_4) (by rw [hml]; rfl) rfl pd1 rfl rfl (by decide) (by decide) (by decide) (by decide) ?_
  intro v1 T1 L1 X1 hQ1
  obtain ⟨rfl, Nq1, hh1⟩ := hQ1
  have N1 := Fr.app N0 Nq1
  refine Go.void (pc' := 7) rfl ?_
  refine g_aloadN X1 hx hby d13_7 (pc' := 8) rfl rfl rfl ?_
  refine Go.alen X1 hx hZ hh1 P1 (z := (4 : Int32)) rfl (hb hby d13_8) (pc' := 9) rfl ?_
  refine g_iload X1 hx hby d13_9 (pc' := 11) rfl rfl ?_
  refine g_iload X1 hx hby d13_11 (pc' := 13) rfl rfl ?_
  refine Go.callS X1 hx hZ hown (wi hw 49 rfl) (wi hw 50 rfl) (wi hw 47 rfl) (wi hw 51 rfl) (by decide) hh1 (argsL := [(.int (4 : Int32)), (.int i2), (.int j2)]) (rest := []) (W := 0) (rm_rc l Z a0 hw (4 : Int32) i2 j2 h0 n0 Z0 (by omega) (by omega) (by show _ ≤ (4 : Int); omega)) (hb hby d13_13) (by rw [hml]; rfl) rfl pd1 rfl rfl (by decide) (by decide) (by decide) (by decide) ?_
  intro v2 T2 L2 X2 hQ2
  obtain ⟨rfl, Nq2, hh2⟩ := hQ2
  have N2 := Fr.app N1 Nq2
  refine Go.void (pc' := 16) rfl ?_
  refine g_iloadN X2 hx hby d13_16 (pc' := 17) rfl rfl ?_
  refine g_iloadN X2 hx hby d13_17 (pc' := 18) rfl rfl ?_
  refine g_isub X2 hx hby d13_18 (pc' := 19) rfl rfl ?_
  generalize hv3 : (j1 - i1) = v3
  refine g_istore X2 hx hby d13_19 (pc' := 21) rfl (L' := #[.val (.ref x1), .val (.int i1), .val (.int j1), .val (.ref x2), .val (.int i2), .val (.int j2), .val (.int v3), .unset, .unset]) rfl ?_
  refine g_iload X2 hx hby d13_21 (pc' := 23) rfl rfl ?_
  refine g_iload X2 hx hby d13_23 (pc' := 25) rfl rfl ?_
  refine g_isub X2 hx hby d13_25 (pc' := 26) rfl rfl ?_
  generalize hv4 : (j2 - i2) = v4
  refine g_istore X2 hx hby d13_26 (pc' := 28) rfl (L' := #[.val (.ref x1), .val (.int i1), .val (.int j1), .val (.ref x2), .val (.int i2), .val (.int j2), .val (.int v3), .val (.int v4), .unset]) rfl ?_
  have hv6 : v3.toInt = (l0 : Int) := by rw [← hv3]; have : ((j1 - i1).toInt - (j1.toInt - i1.toInt)) % 4294967296 = 0 := c_isub _ _; have : -2147483648 ≤ (j1 - i1).toInt ∧ (j1 - i1).toInt < 2147483648 := rng32 _; have : -2147483648 ≤ j1.toInt ∧ j1.toInt < 2147483648 := rng32 _; have : -2147483648 ≤ i1.toInt ∧ i1.toInt < 2147483648 := rng32 _; omega
  have hv7 : v4.toInt = (l0 : Int) := by rw [← hv4]; have : ((j2 - i2).toInt - (j2.toInt - i2.toInt)) % 4294967296 = 0 := c_isub _ _; have : -2147483648 ≤ (j2 - i2).toInt ∧ (j2 - i2).toInt < 2147483648 := rng32 _; have : -2147483648 ≤ j2.toInt ∧ j2.toInt < 2147483648 := rng32 _; have : -2147483648 ≤ i2.toInt ∧ i2.toInt < 2147483648 := rng32 _; omega
  refine g_aloadN X2 hx hby d13_28 (pc' := 29) rfl rfl rfl ?_
  refine g_iloadN X2 hx hby d13_29 (pc' := 30) rfl rfl ?_
  refine g_aloadN X2 hx hby d13_30 (pc' := 31) rfl rfl rfl ?_
  refine g_iload X2 hx hby d13_31 (pc' := 33) rfl rfl ?_
  refine g_iload X2 hx hby d13_33 (pc' := 35) rfl rfl ?_
  refine g_iload X2 hx hby d13_35 (pc' := 37) rfl rfl ?_
  refine Go.callS X2 hx hZ hown (wi hw 68 rfl) (wi hw 69 rfl) (wi hw 70 rfl) (wi hw 71 rfl) (by decide) hh2 (argsL := [(.int v3), (.int v4)]) (rest := [(.int i2), (.ref x2), (.int i1), (.ref x1)]) (W := 4) (rm_min l Z a0 hw v3 v4 h0 n0 Z0 (by omega)) (hb hby d13_37) (by rw [hml]; rfl) rfl pd3 rfl rfl (by decide) (by decide) (by decide) (by decide) ?_
  intro v5 T5 L5 X5 hQ5
  obtain ⟨rfl, Nq5, hh5⟩ := hQ5
  have N5 := Fr.app N2 Nq5
  refine Go.push (pc' := 40) rfl ?_
  refine Go.callS X5 hx hZ hown (wi hw 52 rfl) (wi hw 53 rfl) (wi hw 54 rfl) (wi hw 55 rfl) (by decide) hh5 (argsL := [(.ref x1), (.int i1), (.ref x2), (.int i2), (.int v3)]) (rest := []) (W := 0) (rm_mm l Z a0 hw x1 i1 x2 i2 v3 g1 g2 s1 s2 l0 h0 n0 Z0 P0 P1 ua1 ua2 hv6 (by omega) (by omega) hE) (hb hby d13_40) (by rw [hml]; rfl) rfl pd2 rfl rfl (by decide) (by decide) (by decide) (by decide) ?_
  intro v6 T6 L6 X6 hQ6
  obtain ⟨rfl, Nq6, hh6⟩ := hQ6
  have N6 := Fr.app N5 Nq6
  refine Go.push (pc' := 43) rfl ?_
  refine g_istore X6 hx hby d13_43 (pc' := 45) rfl (L' := #[.val (.ref x1), .val (.int i1), .val (.int j1), .val (.ref x2), .val (.int i2), .val (.int j2), .val (.int v3), .val (.int v4), .val (.int (-1 : Int32))]) rfl ?_
  refine g_iload X6 hx hby d13_45 (pc' := 47) rfl rfl ?_
  have hc47 : (-1 : Int) < (0 : Int) := by decide
  refine g_ifYes X6 hx hby d13_47 (pc' := 67) (tlt (show (-1 : Int32) < (0 : Int32) from Int32.lt_iff_toInt_lt.mpr hc47)).1 (by decide) (by decide) ?_
  refine g_iload X6 hx hby d13_67 (pc' := 69) rfl rfl ?_
  refine g_iload X6 hx hby d13_69 (pc' := 71) rfl rfl ?_
  refine g_isub X6 hx hby d13_71 (pc' := 72) rfl rfl ?_
  refine Go.retI X6 hx hlk hret (hb hby d13_72) (by decide) (by decide) ?_
  exact ⟨(by rw [show (v3 - v4) = (0 : Int32) from Int32.toInt_inj.mp (by show _ = (0 : Int); have : ((v3 - v4).toInt - (v3.toInt - v4.toInt)) % 4294967296 = 0 := c_isub _ _; have : -2147483648 ≤ (v3 - v4).toInt ∧ (v3 - v4).toInt < 2147483648 := rng32 _; have : -2147483648 ≤ v3.toInt ∧ v3.toInt < 2147483648 := rng32 _; have : -2147483648 ≤ v4.toInt ∧ v4.toInt < 2147483648 := rng32 _; omega)]), N6, hh6⟩
theorem d7_0 : decode prog_78_method_4_code 0 = .ok (.aload_n 1, 1) := by decide +kernel
theorem d7_1 : decode prog_78_method_4_code 1 = .ok (.instanceof 2, 3) := by decide +kernel
theorem d7_4 : decode prog_78_method_4_code 4 = .ok (.ifCond .eq 53, 3) := by decide +kernel
theorem d7_7 : decode prog_78_method_4_code 7 = .ok (.aload_n 1, 1) := by decide +kernel
theorem d7_8 : decode prog_78_method_4_code 8 = .ok (.checkcast 2, 3) := by decide +kernel
theorem d7_11 : decode prog_78_method_4_code 11 = .ok (.astore_n 2, 1) := by decide +kernel
theorem d7_12 : decode prog_78_method_4_code 12 = .ok (.aload_n 0, 1) := by decide +kernel
theorem d7_13 : decode prog_78_method_4_code 13 = .ok (.getfield 16, 3) := by decide +kernel
theorem d7_16 : decode prog_78_method_4_code 16 = .ok (.aload_n 2, 1) := by decide +kernel
theorem d7_17 : decode prog_78_method_4_code 17 = .ok (.getfield 16, 3) := by decide +kernel
theorem d7_20 : decode prog_78_method_4_code 20 = .ok (.if_icmp .ne 37, 3) := by decide +kernel
theorem d7_23 : decode prog_78_method_4_code 23 = .ok (.aload_n 0, 1) := by decide +kernel
theorem d7_24 : decode prog_78_method_4_code 24 = .ok (.getfield 20, 3) := by decide +kernel
theorem d7_27 : decode prog_78_method_4_code 27 = .ok (.aload_n 0, 1) := by decide +kernel
theorem d7_28 : decode prog_78_method_4_code 28 = .ok (.getfield 24, 3) := by decide +kernel
theorem d7_31 : decode prog_78_method_4_code 31 = .ok (.aload_n 0, 1) := by decide +kernel
theorem d7_32 : decode prog_78_method_4_code 32 = .ok (.getfield 27, 3) := by decide +kernel
theorem d7_35 : decode prog_78_method_4_code 35 = .ok (.aload_n 2, 1) := by decide +kernel
theorem d7_36 : decode prog_78_method_4_code 36 = .ok (.getfield 20, 3) := by decide +kernel
theorem d7_39 : decode prog_78_method_4_code 39 = .ok (.aload_n 2, 1) := by decide +kernel
theorem d7_40 : decode prog_78_method_4_code 40 = .ok (.getfield 24, 3) := by decide +kernel
theorem d7_43 : decode prog_78_method_4_code 43 = .ok (.aload_n 2, 1) := by decide +kernel
theorem d7_44 : decode prog_78_method_4_code 44 = .ok (.getfield 27, 3) := by decide +kernel
theorem d7_47 : decode prog_78_method_4_code 47 = .ok (.invokestatic 33, 3) := by decide +kernel
theorem pd4 : parseMethodDescriptor "([BII[BII)Z" = some ⟨[(.array .byte), .int, .int, (.array .byte), .int, .int], some .boolean⟩ := by decide +kernel
theorem d7_50 : decode prog_78_method_4_code 50 = .ok (.ifCond .eq 7, 3) := by decide +kernel
theorem d7_53 : decode prog_78_method_4_code 53 = .ok (.iconst 1, 1) := by decide +kernel
theorem d7_54 : decode prog_78_method_4_code 54 = .ok (.goto 4, 3) := by decide +kernel
theorem d7_58 : decode prog_78_method_4_code 58 = .ok (.ireturn, 1) := by decide +kernel
theorem ef_rm_eq (m : MethodId) (x0 : Addr) (x1 : Addr) : entryFrame m #[(.ref x0), (.ref x1)] 3 = mkF m 0 #[.val (.ref x0), .val (.ref x1), .unset] [] := by first | (simp [entryFrame, mkF, argsToLocals, Value.category]; done) | rfl
abbrev Q_rm_eq (Z : State) (a1 : Addr) (a2 : Addr) (g1 : Nat → Int32) (g2 : Nat → Int32) (s1 : Nat) (s2 : Nat) (l0 : Nat) (f1 : Int32) (x1 : Addr) (x2 : Addr) (i1 : Int32) (j1 : Int32) (i2 : Int32) (j2 : Int32) (h0 : Heap) (n0 : Nat) : Option Value → Heap → List Loc → Prop := fun v h L => v = some (.int (1 : Int32)) ∧ Fr n0 L ∧ h = h0
set_option maxRecDepth 65536 in
set_option maxHeartbeats 40000000 in
theorem rm_eq (l : Launch) (Z : State) (a0 : Array Value) (hw : ∀ d ∈ tables_1, d.before a0 Z = true) (a1 : Addr) (a2 : Addr) (g1 : Nat → Int32) (g2 : Nat → Int32) (s1 : Nat) (s2 : Nat) (l0 : Nat) (f1 : Int32) (x1 : Addr) (x2 : Addr) (i1 : Int32) (j1 : Int32) (i2 : Int32) (j2 : Int32) (h0 : Heap) (n0 : Nat) (Z0 : n0 ≤ h0.size) (P0 : Exa Z h0 a1 kNK) (P1 : Exa Z h0 a2 kNK) (P2 : Fld Z h0 a1 kNK "number" "I" (.int f1)) (P3 : Fld Z h0 a1 kNK "bytes" "[B" (.ref x1)) (P4 : Fld Z h0 a1 kNK "start" "I" (.int i1)) (P5 : Fld Z h0 a1 kNK "end" "I" (.int j1)) (P6 : Fld Z h0 a2 kNK "number" "I" (.int f1)) (P7 : Fld Z h0 a2 kNK "bytes" "[B" (.ref x2)) (P8 : Fld Z h0 a2 kNK "start" "I" (.int i2)) (P9 : Fld Z h0 a2 kNK "end" "I" (.int j2)) (P10 : ArF Z h0 x1 .byte 4 (fun i => .int (g1 i))) (P11 : ArF Z h0 x2 .byte 4 (fun i => .int (g2 i))) (ua1 : i1.toInt = (s1 : Int)) (ue1 : j1.toInt = ((s1 + l0 : Nat) : Int)) (ua2 : i2.toInt = (s2 : Int)) (ue2 : j2.toInt = ((s2 + l0 : Nat) : Int)) (hl1 : s1 + l0 ≤ 4) (hl2 : s2 + l0 ≤ 4) (hE : ∀ k, k < l0 → g1 (s1 + k) = g2 (s2 + k)) :
    Con l Z (⟨"com/example/tweak_tags/tweaktags/NameKey", "equals", "(Ljava/lang/Object;)Z"⟩ : MethodName) prog_78_method_4_code 3 (some .boolean) ({ frames := 2, cells := 0, slots := 0, locals := 38 } : Room) #[(.ref a1), (.ref a2)] h0 (Q_rm_eq Z a1 a2 g1 g2 s1 s2 l0 f1 x1 x2 i1 j1 i2 j2 h0 n0) := by
  refine meet (y := (⟨"com/example/tweak_tags/tweaktags/NameKey", "equals", "(Ljava/lang/Object;)Z"⟩ : MethodName)) (Q := Q_rm_eq Z a1 a2 g1 g2 s1 s2 l0 f1 x1 x2 i1 j1 i2 j2 h0 n0) (plainFor_of_name pn_com_example_tweak_tags_tweaktags_NameKey) (fun m => ef_rm_eq m a1 a2) ?_
  intro p e s m below meth c T0 hx hby hml hZ hown hnm hret hlk X0 e0
  have N0 := Fr.nil n0
  refine g_aloadN X0 hx hby d7_0 (pc' := 1) rfl rfl rfl ?_
  obtain ⟨T1, X1, e1, st1⟩ := instY X0 hx hZ hown (wi hw 43 rfl) e0 (Ins.self P1) (g := (mkF m 1 #[.val (.ref a1), .val (.ref a2), .unset] [(.ref a2)])) rfl rfl (hb hby d7_1)
  refine Go.of st1 ?_
  show Go p.tables e below s _ _ _ (T1.setTop (mkF m 4 #[.val (.ref a1), .val (.ref a2), .unset] [(.int (1 : Int32))]))
  have hc4 : ¬ ((1 : Int) = (0 : Int)) := by decide
  refine g_ifNo X1 hx hby d7_4 (pc' := 7) (feq (show ¬ ((1 : Int32) = (0 : Int32)) from fun q => hc4 (congrArg Int32.toInt q))).1 rfl ?_
  refine g_aloadN X1 hx hby d7_7 (pc' := 8) rfl rfl rfl ?_
  obtain ⟨T2, X2, e2, st2⟩ := castY X1 hx hZ hown (wi hw 43 rfl) e1 (Ins.self P1) (g := (mkF m 8 #[.val (.ref a1), .val (.ref a2), .unset] [(.ref a2)])) rfl rfl (hb hby d7_8)
  refine Go.of st2 ?_
  show Go p.tables e below s _ _ _ (T2.setTop (mkF m 11 #[.val (.ref a1), .val (.ref a2), .unset] [(.ref a2)]))
  refine g_astoreN X2 hx hby d7_11 (pc' := 12) rfl rfl (L' := #[.val (.ref a1), .val (.ref a2), .val (.ref a2)]) rfl ?_
  refine g_aloadN X2 hx hby d7_12 (pc' := 13) rfl rfl rfl ?_
  refine g_getf X2 hx hby hZ hown (host := "") (Or.inl (wi hw 22 rfl)) Via.refl e2 P2 d7_13 (pc' := 16) rfl ?_
  intro T3 X3 e3
  refine g_aloadN X3 hx hby d7_16 (pc' := 17) rfl rfl rfl ?_
  refine g_getf X3 hx hby hZ hown (host := "") (Or.inl (wi hw 22 rfl)) Via.refl e3 P6 d7_17 (pc' := 20) rfl ?_
  intro T4 X4 e4
  have hc20 : f1.toInt = f1.toInt := rfl
  refine g_icmpNo X4 hx hby d7_20 (pc' := 23) (teq (show f1 = f1 from Int32.toInt_inj.mp hc20)).2 rfl ?_
  refine g_aloadN X4 hx hby d7_23 (pc' := 24) rfl rfl rfl ?_
  refine g_getf X4 hx hby hZ hown (host := "") (Or.inl (wi hw 24 rfl)) Via.refl e4 P3 d7_24 (pc' := 27) rfl ?_
  intro T5 X5 e5
  refine g_aloadN X5 hx hby d7_27 (pc' := 28) rfl rfl rfl ?_
  refine g_getf X5 hx hby hZ hown (host := "") (Or.inl (wi hw 26 rfl)) Via.refl e5 P4 d7_28 (pc' := 31) rfl ?_
  intro T6 X6 e6
  refine g_aloadN X6 hx hby d7_31 (pc' := 32) rfl rfl rfl ?_
  refine g_getf X6 hx hby hZ hown (host := "") (Or.inl (wi hw 28 rfl)) Via.refl e6 P5 d7_32 (pc' := 35) rfl ?_
  intro T7 X7 e7
  refine g_aloadN X7 hx hby d7_35 (pc' := 36) rfl rfl rfl ?_
  refine g_getf X7 hx hby hZ hown (host := "") (Or.inl (wi hw 24 rfl)) Via.refl e7 P7 d7_36 (pc' := 39) rfl ?_
  intro T8 X8 e8
  refine g_aloadN X8 hx hby d7_39 (pc' := 40) rfl rfl rfl ?_
  refine g_getf X8 hx hby hZ hown (host := "") (Or.inl (wi hw 26 rfl)) Via.refl e8 P8 d7_40 (pc' := 43) rfl ?_
  intro T9 X9 e9
  refine g_aloadN X9 hx hby d7_43 (pc' := 44) rfl rfl rfl ?_
  refine g_getf X9 hx hby hZ hown (host := "") (Or.inl (wi hw 28 rfl)) Via.refl e9 P9 d7_44 (pc' := 47) rfl ?_
  intro T10 X10 e10
  refine Go.callS X10 hx hZ hown (wi hw 45 rfl) (wi hw 46 rfl) (wi hw 47 rfl) (wi hw 48 rfl) (by decide) e10 (argsL := [(.ref x1), (.int i1), (.int j1), (.ref x2), (.int i2), (.int j2)]) (rest := []) (W := 0) (rm_aeq l Z a0 hw x1 i1 j1 x2 i2 j2 g1 g2 s1 s2 l0 h0 n0 Z0 P10 P11 ua1 ue1 ua2 ue2 (by omega) (by omega) hE) (hb hby d7_47) (by rw [hml]; rfl) rfl pd4 rfl rfl (by decide) (by decide) (by decide) (by decide) ?_
  intro v11 T11 L11 X11 hQ11
  obtain ⟨rfl, Nq11, hh11⟩ := hQ11
  have N11 := Fr.app N0 Nq11
  refine Go.push (pc' := 50) rfl ?_
  have hc50 : ¬ ((1 : Int) = (0 : Int)) := by decide
  refine g_ifNo X11 hx hby d7_50 (pc' := 53) (feq (show ¬ ((1 : Int32) = (0 : Int32)) from fun q => hc50 (congrArg Int32.toInt q))).1 rfl ?_
  refine g_iconst X11 hx hby d7_53 (pc' := 54) rfl (z := (1 : Int32)) rfl ?_
  refine g_goto X11 hx hby d7_54 (pc' := 58) (by decide) (by decide) ?_
  refine Go.retZ X11 hx hlk hret (by simp) (hb hby d7_58) (by decide) (by decide) ?_
  exact ⟨rfl, N11, hh11⟩
theorem d11_0 : decode prog_78_method_6_code 0 = .ok (.aload_n 0, 1) := by decide +kernel
theorem d11_1 : decode prog_78_method_6_code 1 = .ok (.getfield 16, 3) := by decide +kernel
theorem d11_4 : decode prog_78_method_6_code 4 = .ok (.aload_n 1, 1) := by decide +kernel
theorem d11_5 : decode prog_78_method_6_code 5 = .ok (.getfield 16, 3) := by decide +kernel
theorem d11_8 : decode prog_78_method_6_code 8 = .ok (.invokestatic 39, 3) := by decide +kernel
theorem d11_11 : decode prog_78_method_6_code 11 = .ok (.istore_n 2, 1) := by decide +kernel
theorem d11_12 : decode prog_78_method_6_code 12 = .ok (.iload_n 2, 1) := by decide +kernel
theorem d11_13 : decode prog_78_method_6_code 13 = .ok (.ifCond .eq 7, 3) := by decide +kernel
theorem d11_20 : decode prog_78_method_6_code 20 = .ok (.aload_n 0, 1) := by decide +kernel
theorem d11_21 : decode prog_78_method_6_code 21 = .ok (.getfield 20, 3) := by decide +kernel
theorem d11_24 : decode prog_78_method_6_code 24 = .ok (.aload_n 0, 1) := by decide +kernel
theorem d11_25 : decode prog_78_method_6_code 25 = .ok (.getfield 24, 3) := by decide +kernel
theorem d11_28 : decode prog_78_method_6_code 28 = .ok (.aload_n 0, 1) := by decide +kernel
theorem d11_29 : decode prog_78_method_6_code 29 = .ok (.getfield 27, 3) := by decide +kernel
theorem d11_32 : decode prog_78_method_6_code 32 = .ok (.aload_n 1, 1) := by decide +kernel
theorem d11_33 : decode prog_78_method_6_code 33 = .ok (.getfield 20, 3) := by decide +kernel
theorem d11_36 : decode prog_78_method_6_code 36 = .ok (.aload_n 1, 1) := by decide +kernel
theorem d11_37 : decode prog_78_method_6_code 37 = .ok (.getfield 24, 3) := by decide +kernel
theorem d11_40 : decode prog_78_method_6_code 40 = .ok (.aload_n 1, 1) := by decide +kernel
theorem d11_41 : decode prog_78_method_6_code 41 = .ok (.getfield 27, 3) := by decide +kernel
theorem d11_44 : decode prog_78_method_6_code 44 = .ok (.invokestatic 45, 3) := by decide +kernel
theorem pd5 : parseMethodDescriptor "([BII[BII)I" = some ⟨[(.array .byte), .int, .int, (.array .byte), .int, .int], some .int⟩ := by decide +kernel
theorem d11_47 : decode prog_78_method_6_code 47 = .ok (.ireturn, 1) := by decide +kernel
theorem ef_rm_ct (m : MethodId) (x0 : Addr) (x1 : Addr) : entryFrame m #[(.ref x0), (.ref x1)] 3 = mkF m 0 #[.val (.ref x0), .val (.ref x1), .unset] [] := by first | (simp [entryFrame, mkF, argsToLocals, Value.category]; done) | rfl
abbrev Q_rm_ct (Z : State) (a1 : Addr) (a2 : Addr) (g1 : Nat → Int32) (g2 : Nat → Int32) (s1 : Nat) (s2 : Nat) (l0 : Nat) (f1 : Int32) (x1 : Addr) (x2 : Addr) (i1 : Int32) (j1 : Int32) (i2 : Int32) (j2 : Int32) (h0 : Heap) (n0 : Nat) : Option Value → Heap → List Loc → Prop := fun v h L => v = some (.int (0 : Int32)) ∧ Fr n0 L ∧ h = h0
set_option maxRecDepth 65536 in
set_option maxHeartbeats 40000000 in
theorem rm_ct (l : Launch) (Z : State) (a0 : Array Value) (hw : ∀ d ∈ tables_1, d.before a0 Z = true) (a1 : Addr) (a2 : Addr) (g1 : Nat → Int32) (g2 : Nat → Int32) (s1 : Nat) (s2 : Nat) (l0 : Nat) (f1 : Int32) (x1 : Addr) (x2 : Addr) (i1 : Int32) (j1 : Int32) (i2 : Int32) (j2 : Int32) (h0 : Heap) (n0 : Nat) (Z0 : n0 ≤ h0.size) (P0 : Exa Z h0 a1 kNK) (P1 : Exa Z h0 a2 kNK) (P2 : Fld Z h0 a1 kNK "number" "I" (.int f1)) (P3 : Fld Z h0 a1 kNK "bytes" "[B" (.ref x1)) (P4 : Fld Z h0 a1 kNK "start" "I" (.int i1)) (P5 : Fld Z h0 a1 kNK "end" "I" (.int j1)) (P6 : Fld Z h0 a2 kNK "number" "I" (.int f1)) (P7 : Fld Z h0 a2 kNK "bytes" "[B" (.ref x2)) (P8 : Fld Z h0 a2 kNK "start" "I" (.int i2)) (P9 : Fld Z h0 a2 kNK "end" "I" (.int j2)) (P10 : ArF Z h0 x1 .byte 4 (fun i => .int (g1 i))) (P11 : ArF Z h0 x2 .byte 4 (fun i => .int (g2 i))) (ua1 : i1.toInt = (s1 : Int)) (ue1 : j1.toInt = ((s1 + l0 : Nat) : Int)) (ua2 : i2.toInt = (s2 : Int)) (ue2 : j2.toInt = ((s2 + l0 : Nat) : Int)) (hl1 : s1 + l0 ≤ 4) (hl2 : s2 + l0 ≤ 4) (hE : ∀ k, k < l0 → g1 (s1 + k) = g2 (s2 + k)) :
    Con l Z (⟨"com/example/tweak_tags/tweaktags/NameKey", "compareTo", "(Lcom/example/tweak_tags/tweaktags/NameKey;)I"⟩ : MethodName) prog_78_method_6_code 3 (some .int) ({ frames := 2, cells := 0, slots := 0, locals := 39 } : Room) #[(.ref a1), (.ref a2)] h0 (Q_rm_ct Z a1 a2 g1 g2 s1 s2 l0 f1 x1 x2 i1 j1 i2 j2 h0 n0) := by
  refine meet (y := (⟨"com/example/tweak_tags/tweaktags/NameKey", "compareTo", "(Lcom/example/tweak_tags/tweaktags/NameKey;)I"⟩ : MethodName)) (Q := Q_rm_ct Z a1 a2 g1 g2 s1 s2 l0 f1 x1 x2 i1 j1 i2 j2 h0 n0) (plainFor_of_name pn_com_example_tweak_tags_tweaktags_NameKey) (fun m => ef_rm_ct m a1 a2) ?_
  intro p e s m below meth c T0 hx hby hml hZ hown hnm hret hlk X0 e0
  have N0 := Fr.nil n0
  refine g_aloadN X0 hx hby d11_0 (pc' := 1) rfl rfl rfl ?_
  refine g_getf X0 hx hby hZ hown (host := "") (Or.inl (wi hw 22 rfl)) Via.refl e0 P2 d11_1 (pc' := 4) rfl ?_
  intro T1 X1 e1
  refine g_aloadN X1 hx hby d11_4 (pc' := 5) rfl rfl rfl ?_
  refine g_getf X1 hx hby hZ hown (host := "") (Or.inl (wi hw 22 rfl)) Via.refl e1 P6 d11_5 (pc' := 8) rfl ?_
  intro T2 X2 e2
  refine Go.callS X2 hx hZ hown (wi hw 61 rfl) (wi hw 62 rfl) (wi hw 63 rfl) (wi hw 64 rfl) (by decide) e2 (argsL := [(.int f1), (.int f1)]) (rest := []) (W := 0) (rm_cmp l Z a0 hw f1 f1 h0 n0 Z0 rfl) (hb hby d11_8) (by rw [hml]; rfl) rfl pd3 rfl rfl (by decide) (by decide) (by decide) (by decide) ?_
  intro v3 T3 L3 X3 hQ3
  obtain ⟨rfl, Nq3, hh3⟩ := hQ3
  have N3 := Fr.app N0 Nq3
  refine Go.push (pc' := 11) rfl ?_
  refine g_istoreN X3 hx hby d11_11 (pc' := 12) rfl (L' := #[.val (.ref a1), .val (.ref a2), .val (.int (0 : Int32))]) rfl ?_
  refine g_iloadN X3 hx hby d11_12 (pc' := 13) rfl rfl ?_
  have hc13 : (0 : Int) = (0 : Int) := by decide
  refine g_ifYes X3 hx hby d11_13 (pc' := 20) (teq (show (0 : Int32) = (0 : Int32) from Int32.toInt_inj.mp hc13)).1 (by decide) (by decide) ?_
  refine g_aloadN X3 hx hby d11_20 (pc' := 21) rfl rfl rfl ?_
  refine g_getf X3 hx hby hZ hown (host := "") (Or.inl (wi hw 24 rfl)) Via.refl hh3 P3 d11_21 (pc' := 24) rfl ?_
  intro T4 X4 e4
  refine g_aloadN X4 hx hby d11_24 (pc' := 25) rfl rfl rfl ?_
  refine g_getf X4 hx hby hZ hown (host := "") (Or.inl (wi hw 26 rfl)) Via.refl e4 P4 d11_25 (pc' := 28) rfl ?_
  intro T5 X5 e5
  refine g_aloadN X5 hx hby d11_28 (pc' := 29) rfl rfl rfl ?_
  refine g_getf X5 hx hby hZ hown (host := "") (Or.inl (wi hw 28 rfl)) Via.refl e5 P5 d11_29 (pc' := 32) rfl ?_
  intro T6 X6 e6
  refine g_aloadN X6 hx hby d11_32 (pc' := 33) rfl rfl rfl ?_
  refine g_getf X6 hx hby hZ hown (host := "") (Or.inl (wi hw 24 rfl)) Via.refl e6 P7 d11_33 (pc' := 36) rfl ?_
  intro T7 X7 e7
  refine g_aloadN X7 hx hby d11_36 (pc' := 37) rfl rfl rfl ?_
  refine g_getf X7 hx hby hZ hown (host := "") (Or.inl (wi hw 26 rfl)) Via.refl e7 P8 d11_37 (pc' := 40) rfl ?_
  intro T8 X8 e8
  refine g_aloadN X8 hx hby d11_40 (pc' := 41) rfl rfl rfl ?_
  refine g_getf X8 hx hby hZ hown (host := "") (Or.inl (wi hw 28 rfl)) Via.refl e8 P9 d11_41 (pc' := 44) rfl ?_
  intro T9 X9 e9
  refine Go.callS X9 hx hZ hown (wi hw 65 rfl) (wi hw 66 rfl) (wi hw 47 rfl) (wi hw 67 rfl) (by decide) e9 (argsL := [(.ref x1), (.int i1), (.int j1), (.ref x2), (.int i2), (.int j2)]) (rest := []) (W := 0) (rm_cun l Z a0 hw x1 i1 j1 x2 i2 j2 g1 g2 s1 s2 l0 h0 n0 Z0 P10 P11 ua1 ue1 ua2 ue2 (by omega) (by omega) hE) (hb hby d11_44) (by rw [hml]; rfl) rfl pd5 rfl rfl (by decide) (by decide) (by decide) (by decide) ?_
  intro v10 T10 L10 X10 hQ10
  obtain ⟨rfl, Nq10, hh10⟩ := hQ10
  have N10 := Fr.app N3 Nq10
  refine Go.push (pc' := 47) rfl ?_
  refine Go.retI X10 hx hlk hret (hb hby d11_47) (by decide) (by decide) ?_
  exact ⟨rfl, N10, hh10⟩
theorem pd6 : parseMethodDescriptor "(II)B" = some ⟨[.int, .int], some .byte⟩ := by decide +kernel
theorem pd7 : parseMethodDescriptor "(I)I" = some ⟨[.int], some .int⟩ := by decide +kernel
theorem pd8 : parseMethodDescriptor "(I[BII)V" = some ⟨[.int, (.array .byte), .int, .int], none⟩ := by decide +kernel
theorem pd9 : parseMethodDescriptor "()I" = some ⟨[], some .int⟩ := by decide +kernel
theorem pd10 : parseMethodDescriptor "(Ljava/lang/Object;)Z" = some ⟨[(.object "java/lang/Object")], some .boolean⟩ := by decide +kernel
theorem pd11 : parseMethodDescriptor "(Lcom/example/tweak_tags/tweaktags/NameKey;)I" = some ⟨[(.object "com/example/tweak_tags/tweaktags/NameKey")], some .int⟩ := by decide +kernel
theorem ef_rm0 (m : MethodId) (x0 : Int32) (x1 : Int32) (x2 : Int32) (x3 : Int32) (x4 : Int32) : entryFrame m #[(.int x0), (.int x1), (.int x2), (.int x3), (.int x4)] maxLocals = mkF m 0 #[.val (.int x0), .val (.int x1), .val (.int x2), .val (.int x3), .val (.int x4), .unset, .unset, .unset, .unset, .unset, .unset, .unset, .unset, .unset, .unset] [] := by first | (simp [entryFrame, mkF, argsToLocals, Value.category, maxLocals]; done) | rfl
set_option maxRecDepth 65536 in
set_option maxHeartbeats 40000000 in
theorem rm0 (l : Launch) (Z : State) (a0 : Array Value) (hw : ∀ d ∈ tables_1, d.before a0 Z = true) (ws : List Jvm.Cond) (p1 p2 p3 p4 p5 : Int32) (h0 : Heap) (n0 : Nat) (Z0 : n0 ≤ h0.size)  :
    MetFree l x (head1 (Jvm.Cond.code x code maxLocals ret :: ws) room_1) (fun a U => a = #[(.int p1), (.int p2), (.int p3), (.int p4), (.int p5)] ∧ Z.Warmed39 U.vm ∧ U.heap = h0) (fun _ _ _ _ _ => True) (fun _ U o U' => ∃ v L, o = .returned v ∧ (fun v h L => v = some (.int 1) ∧ Fr n0 L) v U'.heap L ∧ FrameEnd U o U' L room_1.cells room_1.slots) := by
  refine meet (y := x) (Q := fun v h L => v = some (.int 1) ∧ Fr n0 L) (plainFor_of_name pn_com_example_tweak_tags_tweaktags_NameKeyPointPinLaw) (fun m => ef_rm0 m p1 p2 p3 p4 p5) ?_
  intro p e s m below meth c T0 hx hby hml hZ hown hnm hret hlk X0 e0
  have N0 := Fr.nil n0
  have hml : c.maxLocals = 15 := hml
  refine g_iconst X0 hx hby at_0 (pc' := 1) rfl (z := (4 : Int32)) rfl ?_
  refine Go.newarr X0 hx hZ (n := 4) (cap := 4) (ty := .byte) rfl (wi hw 0 rfl) e0 (by decide) rfl (by decide) (by decide) (by decide) (by decide) (hb hby at_1) (pc' := 3) rfl ?_
  intro T1 h1 b1 X1 e1 E1 hb1 V1
  have g2 : n0 ≤ b1 := by rw [hb1]; exact Z0
  have V3 : ArF Z h1 b1 .byte 4 (fun i => .int ((fun _ => (0 : Int32)) i)) := V1
  refine g_astore X1 hx hby at_3 (pc' := 5) rfl rfl (L' := #[.val (.int p1), .val (.int p2), .val (.int p3), .val (.int p4), .val (.int p5), .val (.ref b1), .unset, .unset, .unset, .unset, .unset, .unset, .unset, .unset, .unset]) rfl ?_
  refine g_aload X1 hx hby at_5 (pc' := 7) rfl rfl rfl ?_
  refine g_iconst X1 hx hby at_7 (pc' := 8) rfl (z := (0 : Int32)) rfl ?_
  refine g_iloadN X1 hx hby at_8 (pc' := 9) rfl rfl ?_
  refine g_iconst X1 hx hby at_9 (pc' := 10) rfl (z := (0 : Int32)) rfl ?_
  refine Go.callS X1 hx hZ hown (wi hw 1 rfl) (wi hw 2 rfl) (wi hw 3 rfl) (wi hw 4 rfl) (by decide) e1 (argsL := [(.int p2), (.int (0 : Int32))]) (rest := [(.int (0 : Int32)), (.ref b1)]) (W := 2) (rm_at l Z a0 hw p2 (0 : Int32) h1 n0 (Nat.le_trans Z0 E1.1) ) (hb hby at_10) (by rw [hml]; rfl) rfl pd6 rfl rfl (by decide) (by decide) (by decide) (by decide) ?_
  intro v4 T4 L4 X4 hQ4
  obtain ⟨rfl, Nq4, hh4⟩ := hQ4
  have N4 := Fr.app N0 Nq4
  refine Go.push (pc' := 13) rfl ?_
  refine Go.bastore X4 hx hZ hh4 V3 (k := 0) rfl (by decide) (hb hby at_13) (pc' := 14) rfl ?_
  intro T5 h5 X5 e5 W5 V5
  refine g_aload X5 hx hby at_14 (pc' := 16) rfl rfl rfl ?_
  refine g_iconst X5 hx hby at_16 (pc' := 17) rfl (z := (1 : Int32)) rfl ?_
  refine g_iloadN X5 hx hby at_17 (pc' := 18) rfl rfl ?_
  refine g_iconst X5 hx hby at_18 (pc' := 19) rfl (z := (1 : Int32)) rfl ?_
  refine Go.callS X5 hx hZ hown (wi hw 1 rfl) (wi hw 2 rfl) (wi hw 3 rfl) (wi hw 4 rfl) (by decide) e5 (argsL := [(.int p2), (.int (1 : Int32))]) (rest := [(.int (1 : Int32)), (.ref b1)]) (W := 2) (rm_at l Z a0 hw p2 (1 : Int32) h5 n0 (Nat.le_trans (Nat.le_trans Z0 E1.1) (Nat.le_of_eq (Wr.size W5).symm)) ) (hb hby at_19) (by rw [hml]; rfl) rfl pd6 rfl rfl (by decide) (by decide) (by decide) (by decide) ?_
  intro v6 T6 L6 X6 hQ6
  obtain ⟨rfl, Nq6, hh6⟩ := hQ6
  have N6 := Fr.app (Fr.snoc X5 N4 g2) Nq6
  refine Go.push (pc' := 22) rfl ?_
  refine Go.bastore X6 hx hZ hh6 V5 (k := 1) rfl (by decide) (hb hby at_22) (pc' := 23) rfl ?_
  intro T7 h7 X7 e7 W7 V7
  refine g_aload X7 hx hby at_23 (pc' := 25) rfl rfl rfl ?_
  refine g_iconst X7 hx hby at_25 (pc' := 26) rfl (z := (2 : Int32)) rfl ?_
  refine g_iloadN X7 hx hby at_26 (pc' := 27) rfl rfl ?_
  refine g_iconst X7 hx hby at_27 (pc' := 28) rfl (z := (2 : Int32)) rfl ?_
  refine Go.callS X7 hx hZ hown (wi hw 1 rfl) (wi hw 2 rfl) (wi hw 3 rfl) (wi hw 4 rfl) (by decide) e7 (argsL := [(.int p2), (.int (2 : Int32))]) (rest := [(.int (2 : Int32)), (.ref b1)]) (W := 2) (rm_at l Z a0 hw p2 (2 : Int32) h7 n0 (Nat.le_trans (Nat.le_trans (Nat.le_trans Z0 E1.1) (Nat.le_of_eq (Wr.size W5).symm)) (Nat.le_of_eq (Wr.size W7).symm)) ) (hb hby at_28) (by rw [hml]; rfl) rfl pd6 rfl rfl (by decide) (by decide) (by decide) (by decide) ?_
  intro v8 T8 L8 X8 hQ8
  obtain ⟨rfl, Nq8, hh8⟩ := hQ8
  have N8 := Fr.app (Fr.snoc X7 N6 g2) Nq8
  refine Go.push (pc' := 31) rfl ?_
  refine Go.bastore X8 hx hZ hh8 V7 (k := 2) rfl (by decide) (hb hby at_31) (pc' := 32) rfl ?_
  intro T9 h9 X9 e9 W9 V9
  have z10 : n0 ≤ h9.size := (Nat.le_trans (Nat.le_trans (Nat.le_trans (Nat.le_trans Z0 E1.1) (Nat.le_of_eq (Wr.size W5).symm)) (Nat.le_of_eq (Wr.size W7).symm)) (Nat.le_of_eq (Wr.size W9).symm))
  refine g_aload X9 hx hby at_32 (pc' := 34) rfl rfl rfl ?_
  refine g_iconst X9 hx hby at_34 (pc' := 35) rfl (z := (3 : Int32)) rfl ?_
  refine g_iloadN X9 hx hby at_35 (pc' := 36) rfl rfl ?_
  refine g_iconst X9 hx hby at_36 (pc' := 37) rfl (z := (3 : Int32)) rfl ?_
  refine Go.callS X9 hx hZ hown (wi hw 1 rfl) (wi hw 2 rfl) (wi hw 3 rfl) (wi hw 4 rfl) (by decide) e9 (argsL := [(.int p2), (.int (3 : Int32))]) (rest := [(.int (3 : Int32)), (.ref b1)]) (W := 2) (rm_at l Z a0 hw p2 (3 : Int32) h9 n0 z10 ) (hb hby at_37) (by rw [hml]; rfl) rfl pd6 rfl rfl (by decide) (by decide) (by decide) (by decide) ?_
  intro v11 T11 L11 X11 hQ11
  obtain ⟨rfl, Nq11, hh11⟩ := hQ11
  have N11 := Fr.app (Fr.snoc X9 N8 g2) Nq11
  refine Go.push (pc' := 40) rfl ?_
  refine Go.bastore X11 hx hZ hh11 V9 (k := 3) rfl (by decide) (hb hby at_40) (pc' := 41) rfl ?_
  intro T12 h12 X12 e12 W12 V12
  have V13 : ArF Z h12 b1 .byte 4 (fun i => .int ((own_bs p2) i)) := V12.congr (fun i hi => by rcases (by omega : i = 0 ∨ i = 1 ∨ i = 2 ∨ i = 3) with rfl | rfl | rfl | rfl <;> exact congrArg Value.int (own_at_nar _ _).symm)
  refine g_iconst X12 hx hby at_41 (pc' := 42) rfl (z := (4 : Int32)) rfl ?_
  refine Go.newarr X12 hx hZ (n := 4) (cap := 4) (ty := .byte) rfl (wi hw 0 rfl) e12 (by decide) rfl (by decide) (by decide) (by decide) (by decide) (hb hby at_42) (pc' := 44) rfl ?_
  intro T14 h14 b14 X14 e14 E14 hb14 V14
  have g15 : n0 ≤ b14 := by rw [hb14]; exact (Nat.le_trans z10 (Nat.le_of_eq (Wr.size W12).symm))
  have V16 : ArF Z h14 b14 .byte 4 (fun i => .int ((fun _ => (0 : Int32)) i)) := V14
  refine g_astore X14 hx hby at_44 (pc' := 46) rfl rfl (L' := #[.val (.int p1), .val (.int p2), .val (.int p3), .val (.int p4), .val (.int p5), .val (.ref b1), .val (.ref b14), .unset, .unset, .unset, .unset, .unset, .unset, .unset, .unset]) rfl ?_
  refine g_aload X14 hx hby at_46 (pc' := 48) rfl rfl rfl ?_
  refine g_iconst X14 hx hby at_48 (pc' := 49) rfl (z := (0 : Int32)) rfl ?_
  refine g_iload X14 hx hby at_49 (pc' := 51) rfl rfl ?_
  refine g_iconst X14 hx hby at_51 (pc' := 52) rfl (z := (0 : Int32)) rfl ?_
  refine Go.callS X14 hx hZ hown (wi hw 1 rfl) (wi hw 2 rfl) (wi hw 3 rfl) (wi hw 4 rfl) (by decide) e14 (argsL := [(.int p5), (.int (0 : Int32))]) (rest := [(.int (0 : Int32)), (.ref b14)]) (W := 2) (rm_at l Z a0 hw p5 (0 : Int32) h14 n0 (Nat.le_trans (Nat.le_trans z10 (Nat.le_of_eq (Wr.size W12).symm)) E14.1) ) (hb hby at_52) (by rw [hml]; rfl) rfl pd6 rfl rfl (by decide) (by decide) (by decide) (by decide) ?_
  intro v17 T17 L17 X17 hQ17
  obtain ⟨rfl, Nq17, hh17⟩ := hQ17
  have N17 := Fr.app (Fr.snoc X12 N11 g2) Nq17
  refine Go.push (pc' := 55) rfl ?_
  refine Go.bastore X17 hx hZ hh17 V16 (k := 0) rfl (by decide) (hb hby at_55) (pc' := 56) rfl ?_
  intro T18 h18 X18 e18 W18 V18
  refine g_aload X18 hx hby at_56 (pc' := 58) rfl rfl rfl ?_
  refine g_iconst X18 hx hby at_58 (pc' := 59) rfl (z := (1 : Int32)) rfl ?_
  refine g_iload X18 hx hby at_59 (pc' := 61) rfl rfl ?_
  refine g_iconst X18 hx hby at_61 (pc' := 62) rfl (z := (1 : Int32)) rfl ?_
  refine Go.callS X18 hx hZ hown (wi hw 1 rfl) (wi hw 2 rfl) (wi hw 3 rfl) (wi hw 4 rfl) (by decide) e18 (argsL := [(.int p5), (.int (1 : Int32))]) (rest := [(.int (1 : Int32)), (.ref b14)]) (W := 2) (rm_at l Z a0 hw p5 (1 : Int32) h18 n0 (Nat.le_trans (Nat.le_trans (Nat.le_trans z10 (Nat.le_of_eq (Wr.size W12).symm)) E14.1) (Nat.le_of_eq (Wr.size W18).symm)) ) (hb hby at_62) (by rw [hml]; rfl) rfl pd6 rfl rfl (by decide) (by decide) (by decide) (by decide) ?_
  intro v19 T19 L19 X19 hQ19
  obtain ⟨rfl, Nq19, hh19⟩ := hQ19
  have N19 := Fr.app (Fr.snoc X18 N17 g15) Nq19
  refine Go.push (pc' := 65) rfl ?_
  refine Go.bastore X19 hx hZ hh19 V18 (k := 1) rfl (by decide) (hb hby at_65) (pc' := 66) rfl ?_
  intro T20 h20 X20 e20 W20 V20
  have z21 : n0 ≤ h20.size := (Nat.le_trans (Nat.le_trans (Nat.le_trans (Nat.le_trans z10 (Nat.le_of_eq (Wr.size W12).symm)) E14.1) (Nat.le_of_eq (Wr.size W18).symm)) (Nat.le_of_eq (Wr.size W20).symm))
  refine g_aload X20 hx hby at_66 (pc' := 68) rfl rfl rfl ?_
  refine g_iconst X20 hx hby at_68 (pc' := 69) rfl (z := (2 : Int32)) rfl ?_
  refine g_iload X20 hx hby at_69 (pc' := 71) rfl rfl ?_
  refine g_iconst X20 hx hby at_71 (pc' := 72) rfl (z := (2 : Int32)) rfl ?_
  refine Go.callS X20 hx hZ hown (wi hw 1 rfl) (wi hw 2 rfl) (wi hw 3 rfl) (wi hw 4 rfl) (by decide) e20 (argsL := [(.int p5), (.int (2 : Int32))]) (rest := [(.int (2 : Int32)), (.ref b14)]) (W := 2) (rm_at l Z a0 hw p5 (2 : Int32) h20 n0 z21 ) (hb hby at_72) (by rw [hml]; rfl) rfl pd6 rfl rfl (by decide) (by decide) (by decide) (by decide) ?_
  intro v22 T22 L22 X22 hQ22
  obtain ⟨rfl, Nq22, hh22⟩ := hQ22
  have N22 := Fr.app (Fr.snoc X20 N19 g15) Nq22
  refine Go.push (pc' := 75) rfl ?_
  refine Go.bastore X22 hx hZ hh22 V20 (k := 2) rfl (by decide) (hb hby at_75) (pc' := 76) rfl ?_
  intro T23 h23 X23 e23 W23 V23
  refine g_aload X23 hx hby at_76 (pc' := 78) rfl rfl rfl ?_
  refine g_iconst X23 hx hby at_78 (pc' := 79) rfl (z := (3 : Int32)) rfl ?_
  refine g_iload X23 hx hby at_79 (pc' := 81) rfl rfl ?_
  refine g_iconst X23 hx hby at_81 (pc' := 82) rfl (z := (3 : Int32)) rfl ?_
  refine Go.callS X23 hx hZ hown (wi hw 1 rfl) (wi hw 2 rfl) (wi hw 3 rfl) (wi hw 4 rfl) (by decide) e23 (argsL := [(.int p5), (.int (3 : Int32))]) (rest := [(.int (3 : Int32)), (.ref b14)]) (W := 2) (rm_at l Z a0 hw p5 (3 : Int32) h23 n0 (Nat.le_trans z21 (Nat.le_of_eq (Wr.size W23).symm)) ) (hb hby at_82) (by rw [hml]; rfl) rfl pd6 rfl rfl (by decide) (by decide) (by decide) (by decide) ?_
  intro v24 T24 L24 X24 hQ24
  obtain ⟨rfl, Nq24, hh24⟩ := hQ24
  have N24 := Fr.app (Fr.snoc X23 N22 g15) Nq24
  refine Go.push (pc' := 85) rfl ?_
  refine Go.bastore X24 hx hZ hh24 V23 (k := 3) rfl (by decide) (hb hby at_85) (pc' := 86) rfl ?_
  intro T25 h25 X25 e25 W25 V25
  have V26 : ArF Z h25 b14 .byte 4 (fun i => .int ((own_bs p5) i)) := V25.congr (fun i hi => by rcases (by omega : i = 0 ∨ i = 1 ∨ i = 2 ∨ i = 3) with rfl | rfl | rfl | rfl <;> exact congrArg Value.int (own_at_nar _ _).symm)
  refine g_iloadN X25 hx hby at_86 (pc' := 87) rfl rfl ?_
  refine g_bipush X25 hx hby at_87 (pc' := 89) rfl (z := (7 : Int32)) rfl ?_
  refine g_iand X25 hx hby at_89 (pc' := 90) rfl rfl ?_
  refine g_iconst X25 hx hby at_90 (pc' := 91) rfl (z := (5 : Int32)) rfl ?_
  refine g_irem X25 hx hby at_91 (pc' := 92) rfl (by decide) rfl ?_
  generalize hv27 : ((p3 &&& (7 : Int32)) % (5 : Int32)) = v27
  refine g_istore X25 hx hby at_92 (pc' := 94) rfl (L' := #[.val (.int p1), .val (.int p2), .val (.int p3), .val (.int p4), .val (.int p5), .val (.ref b1), .val (.ref b14), .val (.int v27), .unset, .unset, .unset, .unset, .unset, .unset, .unset]) rfl ?_
  have hqsn : 0 ≤ v27.toInt ∧ v27.toInt ≤ 4 := by
    rw [← hv27]
    have : (0 ≤ (p3 &&& (7 : Int32)).toInt → ((p3 &&& (7 : Int32)) % (5 : Int32)).toInt = (p3 &&& (7 : Int32)).toInt % 5) ∧ ((p3 &&& (7 : Int32)).toInt < 0 → ((p3 &&& (7 : Int32)) % (5 : Int32)).toInt = -((-(p3 &&& (7 : Int32)).toInt) % 5)) := c_irem _ _ 5 rfl
    have : -2147483648 ≤ ((p3 &&& (7 : Int32)) % (5 : Int32)).toInt ∧ ((p3 &&& (7 : Int32)) % (5 : Int32)).toInt < 2147483648 := rng32 _
    have : (p3 &&& (7 : Int32)).toInt = p3.toInt % 8 := c_mask _ _ 3 (by decide) (by decide)
    have : -2147483648 ≤ (p3 &&& (7 : Int32)).toInt ∧ (p3 &&& (7 : Int32)).toInt < 2147483648 := rng32 _
    have : -2147483648 ≤ p3.toInt ∧ p3.toInt < 2147483648 := rng32 _
    omega
  obtain ⟨sn, hsn⟩ : ∃ n : Nat, v27.toInt = (n : Int) := ⟨v27.toInt.toNat, by omega⟩
  clear hv27
  refine g_iloadN X25 hx hby at_94 (pc' := 95) rfl rfl ?_
  refine g_iconst X25 hx hby at_95 (pc' := 96) rfl (z := (3 : Int32)) rfl ?_
  refine g_iushr X25 hx hby at_96 (pc' := 97) rfl rfl ?_
  generalize hu28 : ((p3.toUInt32 >>> ((3 : Int32) &&& 31).toUInt32).toInt32) = u28
  refine g_bipush X25 hx hby at_97 (pc' := 99) rfl (z := (7 : Int32)) rfl ?_
  refine g_iand X25 hx hby at_99 (pc' := 100) rfl rfl ?_
  refine g_iconst X25 hx hby at_100 (pc' := 101) rfl (z := (5 : Int32)) rfl ?_
  refine g_iload X25 hx hby at_101 (pc' := 103) rfl rfl ?_
  refine g_isub X25 hx hby at_103 (pc' := 104) rfl rfl ?_
  refine g_irem X25 hx hby at_104 (pc' := 105) rfl (own_nz (by have := c_isub (5 : Int32) v27; have := rng32 ((5 : Int32) - v27); have e5 : (5 : Int32).toInt = 5 := rfl; omega)) rfl ?_
  generalize hv29 : ((u28 &&& (7 : Int32)) % ((5 : Int32) - v27)) = v29
  refine g_istore X25 hx hby at_105 (pc' := 107) rfl (L' := #[.val (.int p1), .val (.int p2), .val (.int p3), .val (.int p4), .val (.int p5), .val (.ref b1), .val (.ref b14), .val (.int v27), .val (.int v29), .unset, .unset, .unset, .unset, .unset, .unset]) rfl ?_
  have hqln : 0 ≤ v29.toInt ∧ v29.toInt ≤ 4 - (sn : Int) := by
    rw [← hv29]
    have : (0 ≤ (u28 &&& (7 : Int32)).toInt → 0 < ((5 : Int32) - v27).toInt → 0 ≤ ((u28 &&& (7 : Int32)) % ((5 : Int32) - v27)).toInt ∧ ((u28 &&& (7 : Int32)) % ((5 : Int32) - v27)).toInt < ((5 : Int32) - v27).toInt) := fun h1 h2 => ⟨((c_iremV _ _).1 h1 h2).1, ((c_iremV _ _).1 h1 h2).2.1⟩
    have : -2147483648 ≤ ((u28 &&& (7 : Int32)) % ((5 : Int32) - v27)).toInt ∧ ((u28 &&& (7 : Int32)) % ((5 : Int32) - v27)).toInt < 2147483648 := rng32 _
    have : (u28 &&& (7 : Int32)).toInt = u28.toInt % 8 := c_mask _ _ 3 (by decide) (by decide)
    have : -2147483648 ≤ (u28 &&& (7 : Int32)).toInt ∧ (u28 &&& (7 : Int32)).toInt < 2147483648 := rng32 _
    have : -2147483648 ≤ u28.toInt ∧ u28.toInt < 2147483648 := rng32 _
    have : (((5 : Int32) - v27).toInt - ((5) - v27.toInt)) % 4294967296 = 0 := c_isub _ _
    have : -2147483648 ≤ ((5 : Int32) - v27).toInt ∧ ((5 : Int32) - v27).toInt < 2147483648 := rng32 _
    have : -2147483648 ≤ v27.toInt ∧ v27.toInt < 2147483648 := rng32 _
    omega
  obtain ⟨ln, hln⟩ : ∃ n : Nat, v29.toInt = (n : Int) := ⟨v29.toInt.toNat, by omega⟩
  clear hv29
  refine g_iload X25 hx hby at_107 (pc' := 109) rfl rfl ?_
  refine g_iload X25 hx hby at_109 (pc' := 111) rfl rfl ?_
  refine g_iadd X25 hx hby at_111 (pc' := 112) rfl rfl ?_
  generalize hv30 : (v27 + v29) = v30
  refine g_istore X25 hx hby at_112 (pc' := 114) rfl (L' := #[.val (.int p1), .val (.int p2), .val (.int p3), .val (.int p4), .val (.int p5), .val (.ref b1), .val (.ref b14), .val (.int v27), .val (.int v29), .val (.int v30), .unset, .unset, .unset, .unset, .unset]) rfl ?_
  have hen : v30.toInt = ((sn + ln : Nat) : Int) := by rw [← hv30]; have : ((v27 + v29).toInt - (v27.toInt + v29.toInt)) % 4294967296 = 0 := c_iadd _ _; have : -2147483648 ≤ (v27 + v29).toInt ∧ (v27 + v29).toInt < 2147483648 := rng32 _; have : -2147483648 ≤ v27.toInt ∧ v27.toInt < 2147483648 := rng32 _; have : -2147483648 ≤ v29.toInt ∧ v29.toInt < 2147483648 := rng32 _; omega
  refine g_iconst X25 hx hby at_114 (pc' := 115) rfl (z := (4 : Int32)) rfl ?_
  refine Go.newarr X25 hx hZ (n := 4) (cap := 4) (ty := .byte) rfl (wi hw 0 rfl) e25 (by decide) rfl (by decide) (by decide) (by decide) (by decide) (hb hby at_115) (pc' := 117) rfl ?_
  intro T31 h31 b31 X31 e31 E31 hb31 V31
  have g32 : n0 ≤ b31 := by rw [hb31]; exact (Nat.le_trans (Nat.le_trans z21 (Nat.le_of_eq (Wr.size W23).symm)) (Nat.le_of_eq (Wr.size W25).symm))
  have V33 : ArF Z h31 b31 .byte 4 (fun i => .int ((fun _ => (0 : Int32)) i)) := V31
  refine g_astore X31 hx hby at_117 (pc' := 119) rfl rfl (L' := #[.val (.int p1), .val (.int p2), .val (.int p3), .val (.int p4), .val (.int p5), .val (.ref b1), .val (.ref b14), .val (.int v27), .val (.int v29), .val (.int v30), .val (.ref b31), .unset, .unset, .unset, .unset]) rfl ?_
  refine Go.join (α := State × (List Loc) × Int32) (P := fun x => (fun (Tj141 : State) (Lj141 : List Loc) (c0 : Int32) => Stand p l e room_1 s m #[(.int p1), (.int p2), (.int p3), (.int p4), (.int p5)] below meth c Tj141 Lj141 3 12 ∧ Tj141.heap = h31 ∧ Fr n0 Lj141 ∧ (c0 = own_c p2 p5 sn ln 0)) x.1 x.2.1 x.2.2) (F := fun x => (fun (Tj141 : State) (Lj141 : List Loc) (c0 : Int32) => Tj141.setTop (mkF m 141 #[.val (.int p1), .val (.int p2), .val (.int p3), .val (.int p4), .val (.int p5), .val (.ref b1), .val (.ref b14), .val (.int v27), .val (.int v29), .val (.int v30), .val (.ref b31), .unset, .unset, .unset, .unset] [(.int c0), (.int (0 : Int32)), (.ref b31)])) x.1 x.2.1 x.2.2) ?_ ?_
  · rintro ⟨Tj141, Lj141, c0⟩ hP141
    obtain ⟨Xj141, ej141, Nj141, hJ141⟩ : Stand p l e room_1 s m #[(.int p1), (.int p2), (.int p3), (.int p4), (.int p5)] below meth c Tj141 Lj141 3 12 ∧ Tj141.heap = h31 ∧ Fr n0 Lj141 ∧ (c0 = own_c p2 p5 sn ln 0) := hP141
    show Go p.tables e below s _ _ _ (Tj141.setTop (mkF m 141 #[.val (.int p1), .val (.int p2), .val (.int p3), .val (.int p4), .val (.int p5), .val (.ref b1), .val (.ref b14), .val (.int v27), .val (.int v29), .val (.int v30), .val (.ref b31), .unset, .unset, .unset, .unset] [(.int c0), (.int (0 : Int32)), (.ref b31)]))
    refine Go.bastore Xj141 hx hZ ej141 V33 (k := 0) rfl (by decide) (hb hby at_141) (pc' := 142) rfl ?_
    intro T34 h34 X34 e34 W34 V34
    have z35 : n0 ≤ h34.size := (Nat.le_trans (Nat.le_trans (Nat.le_trans (Nat.le_trans z21 (Nat.le_of_eq (Wr.size W23).symm)) (Nat.le_of_eq (Wr.size W25).symm)) E31.1) (Nat.le_of_eq (Wr.size W34).symm))
    refine Go.join (α := State × (List Loc) × Int32) (P := fun x => (fun (Tj167 : State) (Lj167 : List Loc) (c1 : Int32) => Stand p l e room_1 s m #[(.int p1), (.int p2), (.int p3), (.int p4), (.int p5)] below meth c Tj167 Lj167 3 12 ∧ Tj167.heap = h34 ∧ Fr n0 Lj167 ∧ (c1 = own_c p2 p5 sn ln 1)) x.1 x.2.1 x.2.2) (F := fun x => (fun (Tj167 : State) (Lj167 : List Loc) (c1 : Int32) => Tj167.setTop (mkF m 167 #[.val (.int p1), .val (.int p2), .val (.int p3), .val (.int p4), .val (.int p5), .val (.ref b1), .val (.ref b14), .val (.int v27), .val (.int v29), .val (.int v30), .val (.ref b31), .unset, .unset, .unset, .unset] [(.int c1), (.int (1 : Int32)), (.ref b31)])) x.1 x.2.1 x.2.2) ?_ ?_
    · rintro ⟨Tj167, Lj167, c1⟩ hP167
      obtain ⟨Xj167, ej167, Nj167, hJ167⟩ : Stand p l e room_1 s m #[(.int p1), (.int p2), (.int p3), (.int p4), (.int p5)] below meth c Tj167 Lj167 3 12 ∧ Tj167.heap = h34 ∧ Fr n0 Lj167 ∧ (c1 = own_c p2 p5 sn ln 1) := hP167
      show Go p.tables e below s _ _ _ (Tj167.setTop (mkF m 167 #[.val (.int p1), .val (.int p2), .val (.int p3), .val (.int p4), .val (.int p5), .val (.ref b1), .val (.ref b14), .val (.int v27), .val (.int v29), .val (.int v30), .val (.ref b31), .unset, .unset, .unset, .unset] [(.int c1), (.int (1 : Int32)), (.ref b31)]))
      refine Go.bastore Xj167 hx hZ ej167 V34 (k := 1) rfl (by decide) (hb hby at_167) (pc' := 168) rfl ?_
      intro T36 h36 X36 e36 W36 V36
      refine Go.join (α := State × (List Loc) × Int32) (P := fun x => (fun (Tj193 : State) (Lj193 : List Loc) (c2 : Int32) => Stand p l e room_1 s m #[(.int p1), (.int p2), (.int p3), (.int p4), (.int p5)] below meth c Tj193 Lj193 3 12 ∧ Tj193.heap = h36 ∧ Fr n0 Lj193 ∧ (c2 = own_c p2 p5 sn ln 2)) x.1 x.2.1 x.2.2) (F := fun x => (fun (Tj193 : State) (Lj193 : List Loc) (c2 : Int32) => Tj193.setTop (mkF m 193 #[.val (.int p1), .val (.int p2), .val (.int p3), .val (.int p4), .val (.int p5), .val (.ref b1), .val (.ref b14), .val (.int v27), .val (.int v29), .val (.int v30), .val (.ref b31), .unset, .unset, .unset, .unset] [(.int c2), (.int (2 : Int32)), (.ref b31)])) x.1 x.2.1 x.2.2) ?_ ?_
      · rintro ⟨Tj193, Lj193, c2⟩ hP193
        obtain ⟨Xj193, ej193, Nj193, hJ193⟩ : Stand p l e room_1 s m #[(.int p1), (.int p2), (.int p3), (.int p4), (.int p5)] below meth c Tj193 Lj193 3 12 ∧ Tj193.heap = h36 ∧ Fr n0 Lj193 ∧ (c2 = own_c p2 p5 sn ln 2) := hP193
        show Go p.tables e below s _ _ _ (Tj193.setTop (mkF m 193 #[.val (.int p1), .val (.int p2), .val (.int p3), .val (.int p4), .val (.int p5), .val (.ref b1), .val (.ref b14), .val (.int v27), .val (.int v29), .val (.int v30), .val (.ref b31), .unset, .unset, .unset, .unset] [(.int c2), (.int (2 : Int32)), (.ref b31)]))
        refine Go.bastore Xj193 hx hZ ej193 V36 (k := 2) rfl (by decide) (hb hby at_193) (pc' := 194) rfl ?_
        intro T37 h37 X37 e37 W37 V37
        refine Go.join (α := State × (List Loc) × Int32) (P := fun x => (fun (Tj219 : State) (Lj219 : List Loc) (c3 : Int32) => Stand p l e room_1 s m #[(.int p1), (.int p2), (.int p3), (.int p4), (.int p5)] below meth c Tj219 Lj219 3 12 ∧ Tj219.heap = h37 ∧ Fr n0 Lj219 ∧ (c3 = own_c p2 p5 sn ln 3)) x.1 x.2.1 x.2.2) (F := fun x => (fun (Tj219 : State) (Lj219 : List Loc) (c3 : Int32) => Tj219.setTop (mkF m 219 #[.val (.int p1), .val (.int p2), .val (.int p3), .val (.int p4), .val (.int p5), .val (.ref b1), .val (.ref b14), .val (.int v27), .val (.int v29), .val (.int v30), .val (.ref b31), .unset, .unset, .unset, .unset] [(.int c3), (.int (3 : Int32)), (.ref b31)])) x.1 x.2.1 x.2.2) ?_ ?_
        · rintro ⟨Tj219, Lj219, c3⟩ hP219
          obtain ⟨Xj219, ej219, Nj219, hJ219⟩ : Stand p l e room_1 s m #[(.int p1), (.int p2), (.int p3), (.int p4), (.int p5)] below meth c Tj219 Lj219 3 12 ∧ Tj219.heap = h37 ∧ Fr n0 Lj219 ∧ (c3 = own_c p2 p5 sn ln 3) := hP219
          show Go p.tables e below s _ _ _ (Tj219.setTop (mkF m 219 #[.val (.int p1), .val (.int p2), .val (.int p3), .val (.int p4), .val (.int p5), .val (.ref b1), .val (.ref b14), .val (.int v27), .val (.int v29), .val (.int v30), .val (.ref b31), .unset, .unset, .unset, .unset] [(.int c3), (.int (3 : Int32)), (.ref b31)]))
          refine Go.bastore Xj219 hx hZ ej219 V37 (k := 3) rfl (by decide) (hb hby at_219) (pc' := 220) rfl ?_
          intro T38 h38 X38 e38 W38 V38
          have V39 : ArF Z h38 b31 .byte 4 (fun i => .int ((own_c p2 p5 sn ln) i)) := V38.congr (fun i hi => by
            rcases (by omega : i = 0 ∨ i = 1 ∨ i = 2 ∨ i = 3) with rfl | rfl | rfl | rfl
            · exact congrArg Value.int (show own_c p2 p5 sn ln 0 = nar .byte c0 from by rw [hJ141, own_c_nar])
            · exact congrArg Value.int (show own_c p2 p5 sn ln 1 = nar .byte c1 from by rw [hJ167, own_c_nar])
            · exact congrArg Value.int (show own_c p2 p5 sn ln 2 = nar .byte c2 from by rw [hJ193, own_c_nar])
            · exact congrArg Value.int (show own_c p2 p5 sn ln 3 = nar .byte c3 from by rw [hJ219, own_c_nar]))
          refine g_iloadN X38 hx hby at_220 (pc' := 221) rfl rfl ?_
          refine g_iload X38 hx hby at_221 (pc' := 223) rfl rfl ?_
          refine Go.callS X38 hx hZ hown (wi hw 5 rfl) (wi hw 6 rfl) (wi hw 3 rfl) (wi hw 7 rfl) (by decide) e38 (argsL := [(.int v29)]) (rest := [(.int p1)]) (W := 1) (rm_pow l Z a0 hw v29 ln h38 n0 (Nat.le_trans (Nat.le_trans (Nat.le_trans z35 (Nat.le_of_eq (Wr.size W36).symm)) (Nat.le_of_eq (Wr.size W37).symm)) (Nat.le_of_eq (Wr.size W38).symm)) (by omega) (by omega)) (hb hby at_223) (by rw [hml]; rfl) rfl pd7 rfl rfl (by decide) (by decide) (by decide) (by decide) ?_
          intro v40 T40 L40 X40 hQ40
          obtain ⟨rfl, Nq40, hh40⟩ := hQ40
          have N40 := Fr.app (Fr.snoc X38 Nj219 g32) Nq40
          refine Go.push (pc' := 226) rfl ?_
          refine g_imul X40 hx hby at_226 (pc' := 227) rfl rfl ?_
          generalize hv41 : (p1 * (own_pow ln)) = v41
          refine g_istore X40 hx hby at_227 (pc' := 229) rfl (L' := #[.val (.int p1), .val (.int p2), .val (.int p3), .val (.int p4), .val (.int p5), .val (.ref b1), .val (.ref b14), .val (.int v27), .val (.int v29), .val (.int v30), .val (.ref b31), .val (.int v41), .unset, .unset, .unset]) rfl ?_
          refine Go.join (α := State × (List Loc) × Int32) (P := fun x => (fun (Tj252 : State) (Lj252 : List Loc) (x1 : Int32) => Stand p l e room_1 s m #[(.int p1), (.int p2), (.int p3), (.int p4), (.int p5)] below meth c Tj252 Lj252 3 12 ∧ Tj252.heap = h38 ∧ Fr n0 Lj252 ∧ (x1 = own_x p1 p2 sn ln 1)) x.1 x.2.1 x.2.2) (F := fun x => (fun (Tj252 : State) (Lj252 : List Loc) (x1 : Int32) => Tj252.setTop (mkF m 252 #[.val (.int p1), .val (.int p2), .val (.int p3), .val (.int p4), .val (.int p5), .val (.ref b1), .val (.ref b14), .val (.int v27), .val (.int v29), .val (.int v30), .val (.ref b31), .val (.int x1), .unset, .unset, .unset] [])) x.1 x.2.1 x.2.2) ?_ ?_
          · rintro ⟨Tj252, Lj252, x1⟩ hP252
            obtain ⟨Xj252, ej252, Nj252, hJ252⟩ : Stand p l e room_1 s m #[(.int p1), (.int p2), (.int p3), (.int p4), (.int p5)] below meth c Tj252 Lj252 3 12 ∧ Tj252.heap = h38 ∧ Fr n0 Lj252 ∧ (x1 = own_x p1 p2 sn ln 1) := hP252
            show Go p.tables e below s _ _ _ (Tj252.setTop (mkF m 252 #[.val (.int p1), .val (.int p2), .val (.int p3), .val (.int p4), .val (.int p5), .val (.ref b1), .val (.ref b14), .val (.int v27), .val (.int v29), .val (.int v30), .val (.ref b31), .val (.int x1), .unset, .unset, .unset] []))
            refine Go.join (α := State × (List Loc) × Int32) (P := fun x => (fun (Tj278 : State) (Lj278 : List Loc) (x2 : Int32) => Stand p l e room_1 s m #[(.int p1), (.int p2), (.int p3), (.int p4), (.int p5)] below meth c Tj278 Lj278 3 12 ∧ Tj278.heap = h38 ∧ Fr n0 Lj278 ∧ (x2 = own_x p1 p2 sn ln 2)) x.1 x.2.1 x.2.2) (F := fun x => (fun (Tj278 : State) (Lj278 : List Loc) (x2 : Int32) => Tj278.setTop (mkF m 278 #[.val (.int p1), .val (.int p2), .val (.int p3), .val (.int p4), .val (.int p5), .val (.ref b1), .val (.ref b14), .val (.int v27), .val (.int v29), .val (.int v30), .val (.ref b31), .val (.int x2), .unset, .unset, .unset] [])) x.1 x.2.1 x.2.2) ?_ ?_
            · rintro ⟨Tj278, Lj278, x2⟩ hP278
              obtain ⟨Xj278, ej278, Nj278, hJ278⟩ : Stand p l e room_1 s m #[(.int p1), (.int p2), (.int p3), (.int p4), (.int p5)] below meth c Tj278 Lj278 3 12 ∧ Tj278.heap = h38 ∧ Fr n0 Lj278 ∧ (x2 = own_x p1 p2 sn ln 2) := hP278
              show Go p.tables e below s _ _ _ (Tj278.setTop (mkF m 278 #[.val (.int p1), .val (.int p2), .val (.int p3), .val (.int p4), .val (.int p5), .val (.ref b1), .val (.ref b14), .val (.int v27), .val (.int v29), .val (.int v30), .val (.ref b31), .val (.int x2), .unset, .unset, .unset] []))
              refine Go.join (α := State × (List Loc) × Int32) (P := fun x => (fun (Tj304 : State) (Lj304 : List Loc) (x3 : Int32) => Stand p l e room_1 s m #[(.int p1), (.int p2), (.int p3), (.int p4), (.int p5)] below meth c Tj304 Lj304 3 12 ∧ Tj304.heap = h38 ∧ Fr n0 Lj304 ∧ (x3 = own_x p1 p2 sn ln 3)) x.1 x.2.1 x.2.2) (F := fun x => (fun (Tj304 : State) (Lj304 : List Loc) (x3 : Int32) => Tj304.setTop (mkF m 304 #[.val (.int p1), .val (.int p2), .val (.int p3), .val (.int p4), .val (.int p5), .val (.ref b1), .val (.ref b14), .val (.int v27), .val (.int v29), .val (.int v30), .val (.ref b31), .val (.int x3), .unset, .unset, .unset] [])) x.1 x.2.1 x.2.2) ?_ ?_
              · rintro ⟨Tj304, Lj304, x3⟩ hP304
                obtain ⟨Xj304, ej304, Nj304, hJ304⟩ : Stand p l e room_1 s m #[(.int p1), (.int p2), (.int p3), (.int p4), (.int p5)] below meth c Tj304 Lj304 3 12 ∧ Tj304.heap = h38 ∧ Fr n0 Lj304 ∧ (x3 = own_x p1 p2 sn ln 3) := hP304
                show Go p.tables e below s _ _ _ (Tj304.setTop (mkF m 304 #[.val (.int p1), .val (.int p2), .val (.int p3), .val (.int p4), .val (.int p5), .val (.ref b1), .val (.ref b14), .val (.int v27), .val (.int v29), .val (.int v30), .val (.ref b31), .val (.int x3), .unset, .unset, .unset] []))
                refine Go.join (α := State × (List Loc) × Int32) (P := fun x => (fun (Tj330 : State) (Lj330 : List Loc) (x4 : Int32) => Stand p l e room_1 s m #[(.int p1), (.int p2), (.int p3), (.int p4), (.int p5)] below meth c Tj330 Lj330 3 12 ∧ Tj330.heap = h38 ∧ Fr n0 Lj330 ∧ (x4 = own_x p1 p2 sn ln 4)) x.1 x.2.1 x.2.2) (F := fun x => (fun (Tj330 : State) (Lj330 : List Loc) (x4 : Int32) => Tj330.setTop (mkF m 330 #[.val (.int p1), .val (.int p2), .val (.int p3), .val (.int p4), .val (.int p5), .val (.ref b1), .val (.ref b14), .val (.int v27), .val (.int v29), .val (.int v30), .val (.ref b31), .val (.int x4), .unset, .unset, .unset] [])) x.1 x.2.1 x.2.2) ?_ ?_
                · rintro ⟨Tj330, Lj330, x4⟩ hP330
                  obtain ⟨Xj330, ej330, Nj330, hJ330⟩ : Stand p l e room_1 s m #[(.int p1), (.int p2), (.int p3), (.int p4), (.int p5)] below meth c Tj330 Lj330 3 12 ∧ Tj330.heap = h38 ∧ Fr n0 Lj330 ∧ (x4 = own_x p1 p2 sn ln 4) := hP330
                  show Go p.tables e below s _ _ _ (Tj330.setTop (mkF m 330 #[.val (.int p1), .val (.int p2), .val (.int p3), .val (.int p4), .val (.int p5), .val (.ref b1), .val (.ref b14), .val (.int v27), .val (.int v29), .val (.int v30), .val (.ref b31), .val (.int x4), .unset, .unset, .unset] []))
                  refine g_new Xj330 hx hby hZ hown (wi hw 8 rfl) (wi hw 9 rfl) (wi hw 10 rfl) ej330 at_330 (pc' := 333) rfl (by decide) (by decide) ?_
                  intro T42 h42 b42 X42 e42 E42 hb42 A42 D42
                  have g43 : n0 ≤ b42 := by rw [hb42]; exact (Nat.le_trans (Nat.le_trans (Nat.le_trans z35 (Nat.le_of_eq (Wr.size W36).symm)) (Nat.le_of_eq (Wr.size W37).symm)) (Nat.le_of_eq (Wr.size W38).symm))
                  have F44 : Fld Z h42 b42 "com/example/tweak_tags/tweaktags/NameKey" "number" "I" (.int (0 : Int32)) := D42 (Or.inl (wi hw 23 rfl)) (ty := .int) (by decide)
                  have F45 : Fld Z h42 b42 "com/example/tweak_tags/tweaktags/NameKey" "bytes" "[B" .null := D42 (Or.inl (wi hw 25 rfl)) (ty := (.array .byte)) (by decide)
                  have F46 : Fld Z h42 b42 "com/example/tweak_tags/tweaktags/NameKey" "start" "I" (.int (0 : Int32)) := D42 (Or.inl (wi hw 27 rfl)) (ty := .int) (by decide)
                  have F47 : Fld Z h42 b42 "com/example/tweak_tags/tweaktags/NameKey" "end" "I" (.int (0 : Int32)) := D42 (Or.inl (wi hw 29 rfl)) (ty := .int) (by decide)
                  have F48 : Fld Z h42 b42 "com/example/tweak_tags/tweaktags/NameKey" "hash" "I" (.int (0 : Int32)) := D42 (Or.inl (wi hw 31 rfl)) (ty := .int) (by decide)
                  have z49 : n0 ≤ h42.size := (Nat.le_trans (Nat.le_trans (Nat.le_trans (Nat.le_trans z35 (Nat.le_of_eq (Wr.size W36).symm)) (Nat.le_of_eq (Wr.size W37).symm)) (Nat.le_of_eq (Wr.size W38).symm)) E42.1)
                  refine g_dup X42 hx hby at_333 (pc' := 334) rfl rfl ?_
                  refine g_iloadN X42 hx hby at_334 (pc' := 335) rfl rfl ?_
                  refine g_aload X42 hx hby at_335 (pc' := 337) rfl rfl rfl ?_
                  refine g_iconst X42 hx hby at_337 (pc' := 338) rfl (z := (0 : Int32)) rfl ?_
                  refine g_iconst X42 hx hby at_338 (pc' := 339) rfl (z := (4 : Int32)) rfl ?_
                  have ne51 : b14 ≠ b31 := Nat.ne_of_lt (by rw [hb31]; exact V26.lt)
                  have f52 := ((((((V26.ext E31).other W34 ne51).other W36 ne51).other W37 ne51).other W38 ne51).ext E42)
                  have ne53 : b14 ≠ b42 := Nat.ne_of_lt (by rw [hb42]; exact (((((V26.ext E31).other W34 ne51).other W36 ne51).other W37 ne51).other W38 ne51).lt)
                  refine Go.callI X42 hx hZ hown rfl (wi hw 11 rfl) (wi hw 12 rfl) (wi hw 10 rfl) (wi hw 13 rfl) (by decide) e42 (a := b42) (argsL := [(.int p4), (.ref b14), (.int (0 : Int32)), (.int (4 : Int32))]) (rest := [(.ref b42)]) (W := 1) (rm_init l Z a0 hw b42 p4 b14 (0 : Int32) (4 : Int32) (own_bs p5) 0 4 h42 n0 z49 A42 F44 F45 F46 F47 F48 f52 ne53 g43 rfl rfl (by omega)) (hb hby at_339) (by rw [hml]; rfl) rfl pd8 rfl rfl (by decide) (by decide) (by decide) (by decide) ?_
                  intro v50 T50 L50 X50 hQ50
                  obtain ⟨h50, e50⟩ : ∃ z, T50.heap = z := ⟨_, rfl⟩
                  rw [e50] at hQ50
                  obtain ⟨rfl, Nq50, Kq50, Fq0_50, Fq1_50, Fq2_50, Fq3_50, Fq4_50⟩ := hQ50
                  have N50 := Fr.app Nj330 Nq50
                  refine Go.void (pc' := 342) rfl ?_
                  refine g_astore X50 hx hby at_342 (pc' := 344) rfl rfl (L' := #[.val (.int p1), .val (.int p2), .val (.int p3), .val (.int p4), .val (.int p5), .val (.ref b1), .val (.ref b14), .val (.int v27), .val (.int v29), .val (.int v30), .val (.ref b31), .val (.int x4), .val (.ref b42), .unset, .unset]) rfl ?_
                  refine g_new X50 hx hby hZ hown (wi hw 8 rfl) (wi hw 9 rfl) (wi hw 10 rfl) e50 at_344 (pc' := 347) rfl (by decide) (by decide) ?_
                  intro T54 h54 b54 X54 e54 E54 hb54 A54 D54
                  have g55 : n0 ≤ b54 := by rw [hb54]; exact (Nat.le_trans z49 Kq50.1)
                  have F56 : Fld Z h54 b54 "com/example/tweak_tags/tweaktags/NameKey" "number" "I" (.int (0 : Int32)) := D54 (Or.inl (wi hw 23 rfl)) (ty := .int) (by decide)
                  have F57 : Fld Z h54 b54 "com/example/tweak_tags/tweaktags/NameKey" "bytes" "[B" .null := D54 (Or.inl (wi hw 25 rfl)) (ty := (.array .byte)) (by decide)
                  have F58 : Fld Z h54 b54 "com/example/tweak_tags/tweaktags/NameKey" "start" "I" (.int (0 : Int32)) := D54 (Or.inl (wi hw 27 rfl)) (ty := .int) (by decide)
                  have F59 : Fld Z h54 b54 "com/example/tweak_tags/tweaktags/NameKey" "end" "I" (.int (0 : Int32)) := D54 (Or.inl (wi hw 29 rfl)) (ty := .int) (by decide)
                  have F60 : Fld Z h54 b54 "com/example/tweak_tags/tweaktags/NameKey" "hash" "I" (.int (0 : Int32)) := D54 (Or.inl (wi hw 31 rfl)) (ty := .int) (by decide)
                  refine g_dup X54 hx hby at_347 (pc' := 348) rfl rfl ?_
                  refine g_iloadN X54 hx hby at_348 (pc' := 349) rfl rfl ?_
                  refine g_aload X54 hx hby at_349 (pc' := 351) rfl rfl rfl ?_
                  refine g_iconst X54 hx hby at_351 (pc' := 352) rfl (z := (0 : Int32)) rfl ?_
                  refine g_iload X54 hx hby at_352 (pc' := 354) rfl rfl ?_
                  have ne62 : b31 ≠ b42 := Nat.ne_of_lt (by rw [hb42]; exact V39.lt)
                  have f63 := (((V39.ext E42).keep Kq50 (ninS ne62 nin0)).ext E54)
                  have ne64 : b31 ≠ b54 := Nat.ne_of_lt (by rw [hb54]; exact ((V39.ext E42).keep Kq50 (ninS ne62 nin0)).lt)
                  refine Go.callI X54 hx hZ hown rfl (wi hw 11 rfl) (wi hw 12 rfl) (wi hw 10 rfl) (wi hw 13 rfl) (by decide) e54 (a := b54) (argsL := [(.int p1), (.ref b31), (.int (0 : Int32)), (.int v29)]) (rest := [(.ref b54)]) (W := 1) (rm_init l Z a0 hw b54 p1 b31 (0 : Int32) v29 (own_c p2 p5 sn ln) 0 ln h54 n0 (Nat.le_trans (Nat.le_trans z49 Kq50.1) E54.1) A54 F56 F57 F58 F59 F60 f63 ne64 g55 rfl (by omega) (by omega)) (hb hby at_354) (by rw [hml]; rfl) rfl pd8 rfl rfl (by decide) (by decide) (by decide) (by decide) ?_
                  intro v61 T61 L61 X61 hQ61
                  obtain ⟨h61, e61⟩ : ∃ z, T61.heap = z := ⟨_, rfl⟩
                  rw [e61] at hQ61
                  obtain ⟨rfl, Nq61, Kq61, Fq0_61, Fq1_61, Fq2_61, Fq3_61, Fq4_61⟩ := hQ61
                  have N61 := Fr.app N50 Nq61
                  refine Go.void (pc' := 357) rfl ?_
                  refine g_astore X61 hx hby at_357 (pc' := 359) rfl rfl (L' := #[.val (.int p1), .val (.int p2), .val (.int p3), .val (.int p4), .val (.int p5), .val (.ref b1), .val (.ref b14), .val (.int v27), .val (.int v29), .val (.int v30), .val (.ref b31), .val (.int x4), .val (.ref b42), .val (.ref b54), .unset]) rfl ?_
                  refine g_aload X61 hx hby at_359 (pc' := 361) rfl rfl rfl ?_
                  refine g_iloadN X61 hx hby at_361 (pc' := 362) rfl rfl ?_
                  refine g_aload X61 hx hby at_362 (pc' := 364) rfl rfl rfl ?_
                  refine g_iload X61 hx hby at_364 (pc' := 366) rfl rfl ?_
                  refine g_iload X61 hx hby at_366 (pc' := 368) rfl rfl ?_
                  have f66 := (((A42.keep Kq50).ext E54).keep Kq61)
                  have ne67 : b42 ≠ b54 := Nat.ne_of_lt (by rw [hb54]; exact Fq4_50.lt)
                  have f68 := ((Fq0_50.ext E54).keep Kq61 (ninS ne67 nin0))
                  have f69 := ((Fq1_50.ext E54).keep Kq61 (ninS ne67 nin0))
                  have f70 := ((Fq2_50.ext E54).keep Kq61 (ninS ne67 nin0))
                  have f71 := ((Fq3_50.ext E54).keep Kq61 (ninS ne67 nin0))
                  have f72 := ((Fq4_50.ext E54).keep Kq61 (ninS ne67 nin0))
                  have ne73 : b1 ≠ b14 := Nat.ne_of_lt (by rw [hb14]; exact V13.lt)
                  have ne74 : b1 ≠ b31 := Nat.ne_of_lt (by rw [hb31]; exact (((((V13.ext E14).other W18 ne73).other W20 ne73).other W23 ne73).other W25 ne73).lt)
                  have ne75 : b1 ≠ b42 := Nat.ne_of_lt (by rw [hb42]; exact ((((((((((V13.ext E14).other W18 ne73).other W20 ne73).other W23 ne73).other W25 ne73).ext E31).other W34 ne74).other W36 ne74).other W37 ne74).other W38 ne74).lt)
                  have ne76 : b1 ≠ b54 := Nat.ne_of_lt (by rw [hb54]; exact ((((((((((((V13.ext E14).other W18 ne73).other W20 ne73).other W23 ne73).other W25 ne73).ext E31).other W34 ne74).other W36 ne74).other W37 ne74).other W38 ne74).ext E42).keep Kq50 (ninS ne75 nin0)).lt)
                  have f77 := ((((((((((((((V13.ext E14).other W18 ne73).other W20 ne73).other W23 ne73).other W25 ne73).ext E31).other W34 ne74).other W36 ne74).other W37 ne74).other W38 ne74).ext E42).keep Kq50 (ninS ne75 nin0)).ext E54).keep Kq61 (ninS ne76 nin0))
                  refine Go.callV X61 hx hZ hown (wi hw 32 rfl) (wi hw 18 rfl) (notFace_of_selects (args := #[]) (mvT hZ (wi hw 20 rfl))) (wi hw 20 rfl) (wi hw 19 rfl) (wi hw 10 rfl) (wi hw 21 rfl) (by decide) e61 (a := b42) (argsL := [(.int p1), (.ref b1), (.int v27), (.int v30)]) (rest := []) (W := 0) f66 (rm_pointR l Z a0 hw b42 p1 b1 v27 v30 (own_bs p2) sn ln p4 (0 : Int32) (4 : Int32) (own_hash p4 (own_bs p5) 0 4) b14 h61 n0 (Nat.le_trans (Nat.le_trans (Nat.le_trans z49 Kq50.1) E54.1) Kq61.1) f66 f68 f69 f70 f71 f72 f77 ne75 g43 hsn hen (by omega)) (hb hby at_368) (by rw [hml]; rfl) rfl pd0 rfl rfl (by decide) (by decide) (by decide) (by decide) ?_
                  intro v65 T65 L65 X65 hQ65
                  obtain ⟨h65, e65⟩ : ∃ z, T65.heap = z := ⟨_, rfl⟩
                  rw [e65] at hQ65
                  obtain ⟨rfl, Nq65, Kq65, Fq0_65, Fq1_65, Fq2_65, Fq3_65, Fq4_65⟩ := hQ65
                  have N65 := Fr.app N61 Nq65
                  refine Go.push (pc' := 371) rfl ?_
                  refine g_astore X65 hx hby at_371 (pc' := 373) rfl rfl (L' := #[.val (.int p1), .val (.int p2), .val (.int p3), .val (.int p4), .val (.int p5), .val (.ref b1), .val (.ref b14), .val (.int v27), .val (.int v29), .val (.int v30), .val (.ref b31), .val (.int x4), .val (.ref b42), .val (.ref b54), .val (.ref b42)]) rfl ?_
                  refine g_aload X65 hx hby at_373 (pc' := 375) rfl rfl rfl ?_
                  refine g_aload X65 hx hby at_375 (pc' := 377) rfl rfl rfl ?_
                  refine Go.of (fun _ k => Jvm.RoadKit.acmp X65 hx rfl (cd := .ne) (x := (.ref b42)) (y := (.ref b42)) rfl rfl (pc0 := 377) (pc' := 380) (same := true) rfl (hb hby at_377) rfl (decide_eq_true rfl) (by decide) rfl k) ?_
                  show Go p.tables e below s _ _ _ (T65.setTop (mkF m 380 #[.val (.int p1), .val (.int p2), .val (.int p3), .val (.int p4), .val (.int p5), .val (.ref b1), .val (.ref b14), .val (.int v27), .val (.int v29), .val (.int v30), .val (.ref b31), .val (.int x4), .val (.ref b42), .val (.ref b54), .val (.ref b42)] []))
                  refine g_aload X65 hx hby at_380 (pc' := 382) rfl rfl rfl ?_
                  have f79 := f66.keep Kq65
                  refine Go.callV X65 hx hZ hown (wi hw 33 rfl) (wi hw 34 rfl) (notFace_of_selects (args := #[]) (mvT hZ (wi hw 36 rfl))) (wi hw 36 rfl) (wi hw 35 rfl) (wi hw 10 rfl) (wi hw 37 rfl) (by decide) e65 (a := b42) (argsL := []) (rest := []) (W := 0) f79 (rm_hc l Z a0 hw b42 (own_hash p1 (own_bs p2) sn ln) h65 n0 (Nat.le_trans (Nat.le_trans (Nat.le_trans (Nat.le_trans z49 Kq50.1) E54.1) Kq61.1) Kq65.1) Fq4_65) (hb hby at_382) (by rw [hml]; rfl) rfl pd9 rfl rfl (by decide) (by decide) (by decide) (by decide) ?_
                  intro v78 T78 L78 X78 hQ78
                  obtain ⟨rfl, Nq78, hh78⟩ := hQ78
                  have N78 := Fr.app N65 Nq78
                  refine Go.push (pc' := 385) rfl ?_
                  refine g_iload X78 hx hby at_385 (pc' := 387) rfl rfl ?_
                  have hc387 : (own_hash p1 (own_bs p2) sn ln).toInt = x4.toInt := by rw [hJ330, own_hx p1 p2 sn ln (by omega)]
                  refine g_icmpNo X78 hx hby at_387 (pc' := 390) (teq (show (own_hash p1 (own_bs p2) sn ln) = x4 from Int32.toInt_inj.mp hc387)).2 rfl ?_
                  refine g_aload X78 hx hby at_390 (pc' := 392) rfl rfl rfl ?_
                  have f81 := (Fq4_61.keep Kq65 (ninS (Ne.symm ne67) nin0))
                  have f82 := ((A54.keep Kq61).keep Kq65)
                  refine Go.callV X78 hx hZ hown (wi hw 33 rfl) (wi hw 34 rfl) (notFace_of_selects (args := #[]) (mvT hZ (wi hw 36 rfl))) (wi hw 36 rfl) (wi hw 35 rfl) (wi hw 10 rfl) (wi hw 37 rfl) (by decide) hh78 (a := b54) (argsL := []) (rest := []) (W := 0) f82 (rm_hc l Z a0 hw b54 (own_hash p1 (own_c p2 p5 sn ln) 0 ln) h65 n0 (Nat.le_trans (Nat.le_trans (Nat.le_trans (Nat.le_trans z49 Kq50.1) E54.1) Kq61.1) Kq65.1) f81) (hb hby at_392) (by rw [hml]; rfl) rfl pd9 rfl rfl (by decide) (by decide) (by decide) (by decide) ?_
                  intro v80 T80 L80 X80 hQ80
                  obtain ⟨rfl, Nq80, hh80⟩ := hQ80
                  have N80 := Fr.app N78 Nq80
                  refine Go.push (pc' := 395) rfl ?_
                  refine g_iload X80 hx hby at_395 (pc' := 397) rfl rfl ?_
                  have hc397 : (own_hash p1 (own_c p2 p5 sn ln) 0 ln).toInt = x4.toInt := by rw [hJ330, own_hx p1 p2 sn ln (by omega), own_hc p1 p2 p5 sn ln ln (Nat.le_refl _)]
                  refine g_icmpNo X80 hx hby at_397 (pc' := 400) (teq (show (own_hash p1 (own_c p2 p5 sn ln) 0 ln) = x4 from Int32.toInt_inj.mp hc397)).2 rfl ?_
                  refine g_aload X80 hx hby at_400 (pc' := 402) rfl rfl rfl ?_
                  refine g_aload X80 hx hby at_402 (pc' := 404) rfl rfl rfl ?_
                  have f84 := (Fq0_61.keep Kq65 (ninS (Ne.symm ne67) nin0))
                  have f85 := (Fq1_61.keep Kq65 (ninS (Ne.symm ne67) nin0))
                  have f86 := (Fq2_61.keep Kq65 (ninS (Ne.symm ne67) nin0))
                  have f87 := (Fq3_61.keep Kq65 (ninS (Ne.symm ne67) nin0))
                  have f88 := (f77.keep Kq65 (ninS ne75 nin0))
                  have f89 := ((f63.keep Kq61 (ninS ne64 nin0)).keep Kq65 (ninS ne62 nin0))
                  refine Go.callV X80 hx hZ hown (wi hw 38 rfl) (wi hw 39 rfl) (notFace_of_selects (args := #[]) (mvT hZ (wi hw 41 rfl))) (wi hw 41 rfl) (wi hw 40 rfl) (wi hw 10 rfl) (wi hw 42 rfl) (by decide) hh80 (a := b42) (argsL := [(.ref b54)]) (rest := []) (W := 0) f79 (rm_eq l Z a0 hw b42 b54 (own_bs p2) (own_c p2 p5 sn ln) sn 0 ln p1 b1 b31 v27 v30 (0 : Int32) v29 h65 n0 (Nat.le_trans (Nat.le_trans (Nat.le_trans (Nat.le_trans z49 Kq50.1) E54.1) Kq61.1) Kq65.1) f79 f82 Fq0_65 Fq1_65 Fq2_65 Fq3_65 f84 f85 f86 f87 f88 f89 hsn hen rfl (by omega) (by omega) (by omega) (own_cE p2 p5 sn ln)) (hb hby at_404) (by rw [hml]; rfl) rfl pd10 rfl rfl (by decide) (by decide) (by decide) (by decide) ?_
                  intro v83 T83 L83 X83 hQ83
                  obtain ⟨rfl, Nq83, hh83⟩ := hQ83
                  have N83 := Fr.app N80 Nq83
                  refine Go.push (pc' := 407) rfl ?_
                  have hc407 : ¬ ((1 : Int) = (0 : Int)) := by decide
                  refine g_ifNo X83 hx hby at_407 (pc' := 410) (feq (show ¬ ((1 : Int32) = (0 : Int32)) from fun q => hc407 (congrArg Int32.toInt q))).1 rfl ?_
                  refine g_aload X83 hx hby at_410 (pc' := 412) rfl rfl rfl ?_
                  refine g_aload X83 hx hby at_412 (pc' := 414) rfl rfl rfl ?_
                  refine Go.callV X83 hx hZ hown (wi hw 38 rfl) (wi hw 39 rfl) (notFace_of_selects (args := #[]) (mvT hZ (wi hw 41 rfl))) (wi hw 41 rfl) (wi hw 40 rfl) (wi hw 10 rfl) (wi hw 42 rfl) (by decide) hh83 (a := b54) (argsL := [(.ref b42)]) (rest := []) (W := 0) f82 (rm_eq l Z a0 hw b54 b42 (own_c p2 p5 sn ln) (own_bs p2) 0 sn ln p1 b31 b1 (0 : Int32) v29 v27 v30 h65 n0 (Nat.le_trans (Nat.le_trans (Nat.le_trans (Nat.le_trans z49 Kq50.1) E54.1) Kq61.1) Kq65.1) f82 f79 f84 f85 f86 f87 Fq0_65 Fq1_65 Fq2_65 Fq3_65 f89 f88 rfl (by omega) hsn hen (by omega) (by omega) (fun k hk => (own_cE p2 p5 sn ln k hk).symm)) (hb hby at_414) (by rw [hml]; rfl) rfl pd10 rfl rfl (by decide) (by decide) (by decide) (by decide) ?_
                  intro v90 T90 L90 X90 hQ90
                  obtain ⟨rfl, Nq90, hh90⟩ := hQ90
                  have N90 := Fr.app N83 Nq90
                  refine Go.push (pc' := 417) rfl ?_
                  have hc417 : ¬ ((1 : Int) = (0 : Int)) := by decide
                  refine g_ifNo X90 hx hby at_417 (pc' := 420) (feq (show ¬ ((1 : Int32) = (0 : Int32)) from fun q => hc417 (congrArg Int32.toInt q))).1 rfl ?_
                  refine g_aload X90 hx hby at_420 (pc' := 422) rfl rfl rfl ?_
                  refine g_aload X90 hx hby at_422 (pc' := 424) rfl rfl rfl ?_
                  refine Go.callV X90 hx hZ hown (wi hw 56 rfl) (wi hw 57 rfl) (notFace_of_selects (args := #[]) (mvT hZ (wi hw 59 rfl))) (wi hw 59 rfl) (wi hw 58 rfl) (wi hw 10 rfl) (wi hw 60 rfl) (by decide) hh90 (a := b42) (argsL := [(.ref b54)]) (rest := []) (W := 0) f79 (rm_ct l Z a0 hw b42 b54 (own_bs p2) (own_c p2 p5 sn ln) sn 0 ln p1 b1 b31 v27 v30 (0 : Int32) v29 h65 n0 (Nat.le_trans (Nat.le_trans (Nat.le_trans (Nat.le_trans z49 Kq50.1) E54.1) Kq61.1) Kq65.1) f79 f82 Fq0_65 Fq1_65 Fq2_65 Fq3_65 f84 f85 f86 f87 f88 f89 hsn hen rfl (by omega) (by omega) (by omega) (own_cE p2 p5 sn ln)) (hb hby at_424) (by rw [hml]; rfl) rfl pd11 rfl rfl (by decide) (by decide) (by decide) (by decide) ?_
                  intro v91 T91 L91 X91 hQ91
                  obtain ⟨rfl, Nq91, hh91⟩ := hQ91
                  have N91 := Fr.app N90 Nq91
                  refine Go.push (pc' := 427) rfl ?_
                  have hc427 : (0 : Int) = (0 : Int) := by decide
                  refine g_ifNo X91 hx hby at_427 (pc' := 430) (teq (show (0 : Int32) = (0 : Int32) from Int32.toInt_inj.mp hc427)).2 rfl ?_
                  refine g_aload X91 hx hby at_430 (pc' := 432) rfl rfl rfl ?_
                  refine g_aload X91 hx hby at_432 (pc' := 434) rfl rfl rfl ?_
                  refine Go.callV X91 hx hZ hown (wi hw 56 rfl) (wi hw 57 rfl) (notFace_of_selects (args := #[]) (mvT hZ (wi hw 59 rfl))) (wi hw 59 rfl) (wi hw 58 rfl) (wi hw 10 rfl) (wi hw 60 rfl) (by decide) hh91 (a := b54) (argsL := [(.ref b42)]) (rest := []) (W := 0) f82 (rm_ct l Z a0 hw b54 b42 (own_c p2 p5 sn ln) (own_bs p2) 0 sn ln p1 b31 b1 (0 : Int32) v29 v27 v30 h65 n0 (Nat.le_trans (Nat.le_trans (Nat.le_trans (Nat.le_trans z49 Kq50.1) E54.1) Kq61.1) Kq65.1) f82 f79 f84 f85 f86 f87 Fq0_65 Fq1_65 Fq2_65 Fq3_65 f89 f88 rfl (by omega) hsn hen (by omega) (by omega) (fun k hk => (own_cE p2 p5 sn ln k hk).symm)) (hb hby at_434) (by rw [hml]; rfl) rfl pd11 rfl rfl (by decide) (by decide) (by decide) (by decide) ?_
                  intro v92 T92 L92 X92 hQ92
                  obtain ⟨rfl, Nq92, hh92⟩ := hQ92
                  have N92 := Fr.app N91 Nq92
                  refine Go.push (pc' := 437) rfl ?_
                  have hc437 : (0 : Int) = (0 : Int) := by decide
                  refine g_ifNo X92 hx hby at_437 (pc' := 440) (teq (show (0 : Int32) = (0 : Int32) from Int32.toInt_inj.mp hc437)).2 rfl ?_
                  refine g_iconst X92 hx hby at_440 (pc' := 441) rfl (z := (1 : Int32)) rfl ?_
                  refine g_goto X92 hx hby at_441 (pc' := 445) (by decide) (by decide) ?_
                  refine Go.retZ X92 hx hlk hret (by simp) (hb hby at_445) (by decide) (by decide) ?_
                  exact ⟨rfl, N92⟩
                intro J330
                refine g_iload Xj304 hx hby at_304 (pc' := 306) rfl rfl ?_
                refine g_iconst Xj304 hx hby at_306 (pc' := 307) rfl (z := (3 : Int32)) rfl ?_
                by_cases hc307 : (3 : Int) < v29.toInt
                · refine g_icmpNo Xj304 hx hby at_307 (pc' := 310) (tlt (show (3 : Int32) < v29 from Int32.lt_iff_toInt_lt.mpr hc307)).2.2.2 rfl ?_
                  refine g_iload Xj304 hx hby at_310 (pc' := 312) rfl rfl ?_
                  refine g_aload Xj304 hx hby at_312 (pc' := 314) rfl rfl rfl ?_
                  refine g_iload Xj304 hx hby at_314 (pc' := 316) rfl rfl ?_
                  refine g_iconst Xj304 hx hby at_316 (pc' := 317) rfl (z := (3 : Int32)) rfl ?_
                  refine g_iadd Xj304 hx hby at_317 (pc' := 318) rfl rfl ?_
                  have ne93 : b1 ≠ b14 := Nat.ne_of_lt (by rw [hb14]; exact V13.lt)
                  have ne94 : b1 ≠ b31 := Nat.ne_of_lt (by rw [hb31]; exact (((((V13.ext E14).other W18 ne93).other W20 ne93).other W23 ne93).other W25 ne93).lt)
                  have f95 := ((((((((((V13.ext E14).other W18 ne93).other W20 ne93).other W23 ne93).other W25 ne93).ext E31).other W34 ne94).other W36 ne94).other W37 ne94).other W38 ne94)
                  refine Go.baload Xj304 hx hZ ej304 f95 (k := (sn + 3)) (by have : ((v27 + (3 : Int32)).toInt - (v27.toInt + (3))) % 4294967296 = 0 := c_iadd _ _; have : -2147483648 ≤ (v27 + (3 : Int32)).toInt ∧ (v27 + (3 : Int32)).toInt < 2147483648 := rng32 _; have : -2147483648 ≤ v27.toInt ∧ v27.toInt < 2147483648 := rng32 _; omega) (by omega) rfl (hb hby at_318) (pc' := 319) rfl ?_
                  refine g_iload Xj304 hx hby at_319 (pc' := 321) rfl rfl ?_
                  refine g_iconst Xj304 hx hby at_321 (pc' := 322) rfl (z := (4 : Int32)) rfl ?_
                  refine g_isub Xj304 hx hby at_322 (pc' := 323) rfl rfl ?_
                  refine Go.callS Xj304 hx hZ hown (wi hw 5 rfl) (wi hw 6 rfl) (wi hw 3 rfl) (wi hw 7 rfl) (by decide) ej304 (argsL := [(.int (v29 - (4 : Int32)))]) (rest := [(.int ((own_bs p2) (sn + 3))), (.int x3)]) (W := 2) (rm_pow l Z a0 hw (v29 - (4 : Int32)) (ln - 1 - 3) h38 n0 (Nat.le_trans (Nat.le_trans (Nat.le_trans z35 (Nat.le_of_eq (Wr.size W36).symm)) (Nat.le_of_eq (Wr.size W37).symm)) (Nat.le_of_eq (Wr.size W38).symm)) (by have : ((v29 - (4 : Int32)).toInt - (v29.toInt - (4))) % 4294967296 = 0 := c_isub _ _; have : -2147483648 ≤ (v29 - (4 : Int32)).toInt ∧ (v29 - (4 : Int32)).toInt < 2147483648 := rng32 _; have : -2147483648 ≤ v29.toInt ∧ v29.toInt < 2147483648 := rng32 _; omega) (by omega)) (hb hby at_323) (by rw [hml]; rfl) rfl pd7 rfl rfl (by decide) (by decide) (by decide) (by decide) ?_
                  intro v96 T96 L96 X96 hQ96
                  obtain ⟨rfl, Nq96, hh96⟩ := hQ96
                  have N96 := Fr.app Nj304 Nq96
                  refine Go.push (pc' := 326) rfl ?_
                  refine g_imul X96 hx hby at_326 (pc' := 327) rfl rfl ?_
                  refine g_iadd X96 hx hby at_327 (pc' := 328) rfl rfl ?_
                  generalize hv97 : (x3 + (((own_bs p2) (sn + 3)) * (own_pow (ln - 1 - 3)))) = v97
                  refine g_istore X96 hx hby at_328 (pc' := 330) rfl (L' := #[.val (.int p1), .val (.int p2), .val (.int p3), .val (.int p4), .val (.int p5), .val (.ref b1), .val (.ref b14), .val (.int v27), .val (.int v29), .val (.int v30), .val (.ref b31), .val (.int v97), .unset, .unset, .unset]) rfl ?_
                  exact J330 (T96, _, v97) ⟨X96.more (by decide) (by decide), hh96, N96, (show v97 = own_x p1 p2 sn ln 4 from (by rw [← hv97, hJ304]; exact (own_xP p1 p2 sn ln 3 (by omega)).symm))⟩
                · refine g_icmpYes Xj304 hx hby at_307 (pc' := 330) (flt (show ¬ ((3 : Int32) < v29) from fun q => hc307 (Int32.lt_iff_toInt_lt.mp q))).2.2.2 (by decide) (by decide) ?_
                  exact J330 (Tj304, _, x3) ⟨Xj304.more (by decide) (by decide), ej304, Nj304, (show x3 = own_x p1 p2 sn ln 4 from (by rw [hJ304]; exact (own_xN p1 p2 sn ln 3 (by omega)).symm))⟩
              intro J304
              refine g_iload Xj278 hx hby at_278 (pc' := 280) rfl rfl ?_
              refine g_iconst Xj278 hx hby at_280 (pc' := 281) rfl (z := (2 : Int32)) rfl ?_
              by_cases hc281 : (2 : Int) < v29.toInt
              · refine g_icmpNo Xj278 hx hby at_281 (pc' := 284) (tlt (show (2 : Int32) < v29 from Int32.lt_iff_toInt_lt.mpr hc281)).2.2.2 rfl ?_
                refine g_iload Xj278 hx hby at_284 (pc' := 286) rfl rfl ?_
                refine g_aload Xj278 hx hby at_286 (pc' := 288) rfl rfl rfl ?_
                refine g_iload Xj278 hx hby at_288 (pc' := 290) rfl rfl ?_
                refine g_iconst Xj278 hx hby at_290 (pc' := 291) rfl (z := (2 : Int32)) rfl ?_
                refine g_iadd Xj278 hx hby at_291 (pc' := 292) rfl rfl ?_
                have ne98 : b1 ≠ b14 := Nat.ne_of_lt (by rw [hb14]; exact V13.lt)
                have ne99 : b1 ≠ b31 := Nat.ne_of_lt (by rw [hb31]; exact (((((V13.ext E14).other W18 ne98).other W20 ne98).other W23 ne98).other W25 ne98).lt)
                have f100 := ((((((((((V13.ext E14).other W18 ne98).other W20 ne98).other W23 ne98).other W25 ne98).ext E31).other W34 ne99).other W36 ne99).other W37 ne99).other W38 ne99)
                refine Go.baload Xj278 hx hZ ej278 f100 (k := (sn + 2)) (by have : ((v27 + (2 : Int32)).toInt - (v27.toInt + (2))) % 4294967296 = 0 := c_iadd _ _; have : -2147483648 ≤ (v27 + (2 : Int32)).toInt ∧ (v27 + (2 : Int32)).toInt < 2147483648 := rng32 _; have : -2147483648 ≤ v27.toInt ∧ v27.toInt < 2147483648 := rng32 _; omega) (by omega) rfl (hb hby at_292) (pc' := 293) rfl ?_
                refine g_iload Xj278 hx hby at_293 (pc' := 295) rfl rfl ?_
                refine g_iconst Xj278 hx hby at_295 (pc' := 296) rfl (z := (3 : Int32)) rfl ?_
                refine g_isub Xj278 hx hby at_296 (pc' := 297) rfl rfl ?_
                refine Go.callS Xj278 hx hZ hown (wi hw 5 rfl) (wi hw 6 rfl) (wi hw 3 rfl) (wi hw 7 rfl) (by decide) ej278 (argsL := [(.int (v29 - (3 : Int32)))]) (rest := [(.int ((own_bs p2) (sn + 2))), (.int x2)]) (W := 2) (rm_pow l Z a0 hw (v29 - (3 : Int32)) (ln - 1 - 2) h38 n0 (Nat.le_trans (Nat.le_trans (Nat.le_trans z35 (Nat.le_of_eq (Wr.size W36).symm)) (Nat.le_of_eq (Wr.size W37).symm)) (Nat.le_of_eq (Wr.size W38).symm)) (by have : ((v29 - (3 : Int32)).toInt - (v29.toInt - (3))) % 4294967296 = 0 := c_isub _ _; have : -2147483648 ≤ (v29 - (3 : Int32)).toInt ∧ (v29 - (3 : Int32)).toInt < 2147483648 := rng32 _; have : -2147483648 ≤ v29.toInt ∧ v29.toInt < 2147483648 := rng32 _; omega) (by omega)) (hb hby at_297) (by rw [hml]; rfl) rfl pd7 rfl rfl (by decide) (by decide) (by decide) (by decide) ?_
                intro v101 T101 L101 X101 hQ101
                obtain ⟨rfl, Nq101, hh101⟩ := hQ101
                have N101 := Fr.app Nj278 Nq101
                refine Go.push (pc' := 300) rfl ?_
                refine g_imul X101 hx hby at_300 (pc' := 301) rfl rfl ?_
                refine g_iadd X101 hx hby at_301 (pc' := 302) rfl rfl ?_
                generalize hv102 : (x2 + (((own_bs p2) (sn + 2)) * (own_pow (ln - 1 - 2)))) = v102
                refine g_istore X101 hx hby at_302 (pc' := 304) rfl (L' := #[.val (.int p1), .val (.int p2), .val (.int p3), .val (.int p4), .val (.int p5), .val (.ref b1), .val (.ref b14), .val (.int v27), .val (.int v29), .val (.int v30), .val (.ref b31), .val (.int v102), .unset, .unset, .unset]) rfl ?_
                exact J304 (T101, _, v102) ⟨X101.more (by decide) (by decide), hh101, N101, (show v102 = own_x p1 p2 sn ln 3 from (by rw [← hv102, hJ278]; exact (own_xP p1 p2 sn ln 2 (by omega)).symm))⟩
              · refine g_icmpYes Xj278 hx hby at_281 (pc' := 304) (flt (show ¬ ((2 : Int32) < v29) from fun q => hc281 (Int32.lt_iff_toInt_lt.mp q))).2.2.2 (by decide) (by decide) ?_
                exact J304 (Tj278, _, x2) ⟨Xj278.more (by decide) (by decide), ej278, Nj278, (show x2 = own_x p1 p2 sn ln 3 from (by rw [hJ278]; exact (own_xN p1 p2 sn ln 2 (by omega)).symm))⟩
            intro J278
            refine g_iload Xj252 hx hby at_252 (pc' := 254) rfl rfl ?_
            refine g_iconst Xj252 hx hby at_254 (pc' := 255) rfl (z := (1 : Int32)) rfl ?_
            by_cases hc255 : (1 : Int) < v29.toInt
            · refine g_icmpNo Xj252 hx hby at_255 (pc' := 258) (tlt (show (1 : Int32) < v29 from Int32.lt_iff_toInt_lt.mpr hc255)).2.2.2 rfl ?_
              refine g_iload Xj252 hx hby at_258 (pc' := 260) rfl rfl ?_
              refine g_aload Xj252 hx hby at_260 (pc' := 262) rfl rfl rfl ?_
              refine g_iload Xj252 hx hby at_262 (pc' := 264) rfl rfl ?_
              refine g_iconst Xj252 hx hby at_264 (pc' := 265) rfl (z := (1 : Int32)) rfl ?_
              refine g_iadd Xj252 hx hby at_265 (pc' := 266) rfl rfl ?_
              have ne103 : b1 ≠ b14 := Nat.ne_of_lt (by rw [hb14]; exact V13.lt)
              have ne104 : b1 ≠ b31 := Nat.ne_of_lt (by rw [hb31]; exact (((((V13.ext E14).other W18 ne103).other W20 ne103).other W23 ne103).other W25 ne103).lt)
              have f105 := ((((((((((V13.ext E14).other W18 ne103).other W20 ne103).other W23 ne103).other W25 ne103).ext E31).other W34 ne104).other W36 ne104).other W37 ne104).other W38 ne104)
              refine Go.baload Xj252 hx hZ ej252 f105 (k := (sn + 1)) (by have : ((v27 + (1 : Int32)).toInt - (v27.toInt + (1))) % 4294967296 = 0 := c_iadd _ _; have : -2147483648 ≤ (v27 + (1 : Int32)).toInt ∧ (v27 + (1 : Int32)).toInt < 2147483648 := rng32 _; have : -2147483648 ≤ v27.toInt ∧ v27.toInt < 2147483648 := rng32 _; omega) (by omega) rfl (hb hby at_266) (pc' := 267) rfl ?_
              refine g_iload Xj252 hx hby at_267 (pc' := 269) rfl rfl ?_
              refine g_iconst Xj252 hx hby at_269 (pc' := 270) rfl (z := (2 : Int32)) rfl ?_
              refine g_isub Xj252 hx hby at_270 (pc' := 271) rfl rfl ?_
              refine Go.callS Xj252 hx hZ hown (wi hw 5 rfl) (wi hw 6 rfl) (wi hw 3 rfl) (wi hw 7 rfl) (by decide) ej252 (argsL := [(.int (v29 - (2 : Int32)))]) (rest := [(.int ((own_bs p2) (sn + 1))), (.int x1)]) (W := 2) (rm_pow l Z a0 hw (v29 - (2 : Int32)) (ln - 1 - 1) h38 n0 (Nat.le_trans (Nat.le_trans (Nat.le_trans z35 (Nat.le_of_eq (Wr.size W36).symm)) (Nat.le_of_eq (Wr.size W37).symm)) (Nat.le_of_eq (Wr.size W38).symm)) (by have : ((v29 - (2 : Int32)).toInt - (v29.toInt - (2))) % 4294967296 = 0 := c_isub _ _; have : -2147483648 ≤ (v29 - (2 : Int32)).toInt ∧ (v29 - (2 : Int32)).toInt < 2147483648 := rng32 _; have : -2147483648 ≤ v29.toInt ∧ v29.toInt < 2147483648 := rng32 _; omega) (by omega)) (hb hby at_271) (by rw [hml]; rfl) rfl pd7 rfl rfl (by decide) (by decide) (by decide) (by decide) ?_
              intro v106 T106 L106 X106 hQ106
              obtain ⟨rfl, Nq106, hh106⟩ := hQ106
              have N106 := Fr.app Nj252 Nq106
              refine Go.push (pc' := 274) rfl ?_
              refine g_imul X106 hx hby at_274 (pc' := 275) rfl rfl ?_
              refine g_iadd X106 hx hby at_275 (pc' := 276) rfl rfl ?_
              generalize hv107 : (x1 + (((own_bs p2) (sn + 1)) * (own_pow (ln - 1 - 1)))) = v107
              refine g_istore X106 hx hby at_276 (pc' := 278) rfl (L' := #[.val (.int p1), .val (.int p2), .val (.int p3), .val (.int p4), .val (.int p5), .val (.ref b1), .val (.ref b14), .val (.int v27), .val (.int v29), .val (.int v30), .val (.ref b31), .val (.int v107), .unset, .unset, .unset]) rfl ?_
              exact J278 (T106, _, v107) ⟨X106.more (by decide) (by decide), hh106, N106, (show v107 = own_x p1 p2 sn ln 2 from (by rw [← hv107, hJ252]; exact (own_xP p1 p2 sn ln 1 (by omega)).symm))⟩
            · refine g_icmpYes Xj252 hx hby at_255 (pc' := 278) (flt (show ¬ ((1 : Int32) < v29) from fun q => hc255 (Int32.lt_iff_toInt_lt.mp q))).2.2.2 (by decide) (by decide) ?_
              exact J278 (Tj252, _, x1) ⟨Xj252.more (by decide) (by decide), ej252, Nj252, (show x1 = own_x p1 p2 sn ln 2 from (by rw [hJ252]; exact (own_xN p1 p2 sn ln 1 (by omega)).symm))⟩
          intro J252
          refine g_iload X40 hx hby at_229 (pc' := 231) rfl rfl ?_
          by_cases hc231 : (0 : Int) < v29.toInt
          · refine g_ifNo X40 hx hby at_231 (pc' := 234) (tlt (show (0 : Int32) < v29 from Int32.lt_iff_toInt_lt.mpr hc231)).2.2.2 rfl ?_
            refine g_iload X40 hx hby at_234 (pc' := 236) rfl rfl ?_
            refine g_aload X40 hx hby at_236 (pc' := 238) rfl rfl rfl ?_
            refine g_iload X40 hx hby at_238 (pc' := 240) rfl rfl ?_
            have ne108 : b1 ≠ b14 := Nat.ne_of_lt (by rw [hb14]; exact V13.lt)
            have ne109 : b1 ≠ b31 := Nat.ne_of_lt (by rw [hb31]; exact (((((V13.ext E14).other W18 ne108).other W20 ne108).other W23 ne108).other W25 ne108).lt)
            have f110 := ((((((((((V13.ext E14).other W18 ne108).other W20 ne108).other W23 ne108).other W25 ne108).ext E31).other W34 ne109).other W36 ne109).other W37 ne109).other W38 ne109)
            refine Go.baload X40 hx hZ hh40 f110 (k := (sn + 0)) (by omega) (by omega) rfl (hb hby at_240) (pc' := 241) rfl ?_
            refine g_iload X40 hx hby at_241 (pc' := 243) rfl rfl ?_
            refine g_iconst X40 hx hby at_243 (pc' := 244) rfl (z := (1 : Int32)) rfl ?_
            refine g_isub X40 hx hby at_244 (pc' := 245) rfl rfl ?_
            refine Go.callS X40 hx hZ hown (wi hw 5 rfl) (wi hw 6 rfl) (wi hw 3 rfl) (wi hw 7 rfl) (by decide) hh40 (argsL := [(.int (v29 - (1 : Int32)))]) (rest := [(.int ((own_bs p2) (sn + 0))), (.int v41)]) (W := 2) (rm_pow l Z a0 hw (v29 - (1 : Int32)) (ln - 1 - 0) h38 n0 (Nat.le_trans (Nat.le_trans (Nat.le_trans z35 (Nat.le_of_eq (Wr.size W36).symm)) (Nat.le_of_eq (Wr.size W37).symm)) (Nat.le_of_eq (Wr.size W38).symm)) (by have : ((v29 - (1 : Int32)).toInt - (v29.toInt - (1))) % 4294967296 = 0 := c_isub _ _; have : -2147483648 ≤ (v29 - (1 : Int32)).toInt ∧ (v29 - (1 : Int32)).toInt < 2147483648 := rng32 _; have : -2147483648 ≤ v29.toInt ∧ v29.toInt < 2147483648 := rng32 _; omega) (by omega)) (hb hby at_245) (by rw [hml]; rfl) rfl pd7 rfl rfl (by decide) (by decide) (by decide) (by decide) ?_
            intro v111 T111 L111 X111 hQ111
            obtain ⟨rfl, Nq111, hh111⟩ := hQ111
            have N111 := Fr.app N40 Nq111
            refine Go.push (pc' := 248) rfl ?_
            refine g_imul X111 hx hby at_248 (pc' := 249) rfl rfl ?_
            refine g_iadd X111 hx hby at_249 (pc' := 250) rfl rfl ?_
            generalize hv112 : (v41 + (((own_bs p2) (sn + 0)) * (own_pow (ln - 1 - 0)))) = v112
            refine g_istore X111 hx hby at_250 (pc' := 252) rfl (L' := #[.val (.int p1), .val (.int p2), .val (.int p3), .val (.int p4), .val (.int p5), .val (.ref b1), .val (.ref b14), .val (.int v27), .val (.int v29), .val (.int v30), .val (.ref b31), .val (.int v112), .unset, .unset, .unset]) rfl ?_
            exact J252 (T111, _, v112) ⟨X111.more (by decide) (by decide), hh111, N111, (show v112 = own_x p1 p2 sn ln 1 from (by rw [← hv112, ← hv41]; exact (own_xP p1 p2 sn ln 0 (by omega)).symm))⟩
          · refine g_ifYes X40 hx hby at_231 (pc' := 252) (flt (show ¬ ((0 : Int32) < v29) from fun q => hc231 (Int32.lt_iff_toInt_lt.mp q))).2.2.2 (by decide) (by decide) ?_
            exact J252 (T40, _, v41) ⟨X40.more (by decide) (by decide), hh40, N40, (show v41 = own_x p1 p2 sn ln 1 from (by rw [← hv41]; exact (own_xN p1 p2 sn ln 0 (by omega)).symm))⟩
        intro J219
        refine g_aload X37 hx hby at_194 (pc' := 196) rfl rfl rfl ?_
        refine g_iconst X37 hx hby at_196 (pc' := 197) rfl (z := (3 : Int32)) rfl ?_
        refine g_iload X37 hx hby at_197 (pc' := 199) rfl rfl ?_
        refine g_iconst X37 hx hby at_199 (pc' := 200) rfl (z := (3 : Int32)) rfl ?_
        by_cases hc200 : (3 : Int) < v29.toInt
        · refine g_icmpNo X37 hx hby at_200 (pc' := 203) (tlt (show (3 : Int32) < v29 from Int32.lt_iff_toInt_lt.mpr hc200)).2.2.2 rfl ?_
          refine g_aload X37 hx hby at_203 (pc' := 205) rfl rfl rfl ?_
          refine g_iload X37 hx hby at_205 (pc' := 207) rfl rfl ?_
          refine g_iconst X37 hx hby at_207 (pc' := 208) rfl (z := (3 : Int32)) rfl ?_
          refine g_iadd X37 hx hby at_208 (pc' := 209) rfl rfl ?_
          have ne113 : b1 ≠ b14 := Nat.ne_of_lt (by rw [hb14]; exact V13.lt)
          have ne114 : b1 ≠ b31 := Nat.ne_of_lt (by rw [hb31]; exact (((((V13.ext E14).other W18 ne113).other W20 ne113).other W23 ne113).other W25 ne113).lt)
          have f115 := (((((((((V13.ext E14).other W18 ne113).other W20 ne113).other W23 ne113).other W25 ne113).ext E31).other W34 ne114).other W36 ne114).other W37 ne114)
          refine Go.baload X37 hx hZ e37 f115 (k := (sn + 3)) (by have : ((v27 + (3 : Int32)).toInt - (v27.toInt + (3))) % 4294967296 = 0 := c_iadd _ _; have : -2147483648 ≤ (v27 + (3 : Int32)).toInt ∧ (v27 + (3 : Int32)).toInt < 2147483648 := rng32 _; have : -2147483648 ≤ v27.toInt ∧ v27.toInt < 2147483648 := rng32 _; omega) (by omega) rfl (hb hby at_209) (pc' := 210) rfl ?_
          refine g_goto X37 hx hby at_210 (pc' := 219) (by decide) (by decide) ?_
          exact J219 (T37, _, ((own_bs p2) (sn + 3))) ⟨X37.more (by decide) (by decide), e37, (Fr.snoc X37 Nj193 g32), (show ((own_bs p2) (sn + 3)) = own_c p2 p5 sn ln 3 from (by rw [own_c, if_pos (by omega)]))⟩
        · refine g_icmpYes X37 hx hby at_200 (pc' := 213) (flt (show ¬ ((3 : Int32) < v29) from fun q => hc200 (Int32.lt_iff_toInt_lt.mp q))).2.2.2 (by decide) (by decide) ?_
          refine g_iload X37 hx hby at_213 (pc' := 215) rfl rfl ?_
          refine g_iconst X37 hx hby at_215 (pc' := 216) rfl (z := (3 : Int32)) rfl ?_
          refine Go.callS X37 hx hZ hown (wi hw 1 rfl) (wi hw 2 rfl) (wi hw 3 rfl) (wi hw 4 rfl) (by decide) e37 (argsL := [(.int p5), (.int (3 : Int32))]) (rest := [(.int (3 : Int32)), (.ref b31)]) (W := 2) (rm_at l Z a0 hw p5 (3 : Int32) h37 n0 (Nat.le_trans (Nat.le_trans z35 (Nat.le_of_eq (Wr.size W36).symm)) (Nat.le_of_eq (Wr.size W37).symm)) ) (hb hby at_216) (by rw [hml]; rfl) rfl pd6 rfl rfl (by decide) (by decide) (by decide) (by decide) ?_
          intro v116 T116 L116 X116 hQ116
          obtain ⟨rfl, Nq116, hh116⟩ := hQ116
          have N116 := Fr.app (Fr.snoc X37 Nj193 g32) Nq116
          refine Go.push (pc' := 219) rfl ?_
          exact J219 (T116, _, (own_at p5 (3 : Int32))) ⟨X116.more (by decide) (by decide), hh116, N116, (show (own_at p5 (3 : Int32)) = own_c p2 p5 sn ln 3 from (by rw [own_c, if_neg (by omega)]; rfl))⟩
      intro J193
      refine g_aload X36 hx hby at_168 (pc' := 170) rfl rfl rfl ?_
      refine g_iconst X36 hx hby at_170 (pc' := 171) rfl (z := (2 : Int32)) rfl ?_
      refine g_iload X36 hx hby at_171 (pc' := 173) rfl rfl ?_
      refine g_iconst X36 hx hby at_173 (pc' := 174) rfl (z := (2 : Int32)) rfl ?_
      by_cases hc174 : (2 : Int) < v29.toInt
      · refine g_icmpNo X36 hx hby at_174 (pc' := 177) (tlt (show (2 : Int32) < v29 from Int32.lt_iff_toInt_lt.mpr hc174)).2.2.2 rfl ?_
        refine g_aload X36 hx hby at_177 (pc' := 179) rfl rfl rfl ?_
        refine g_iload X36 hx hby at_179 (pc' := 181) rfl rfl ?_
        refine g_iconst X36 hx hby at_181 (pc' := 182) rfl (z := (2 : Int32)) rfl ?_
        refine g_iadd X36 hx hby at_182 (pc' := 183) rfl rfl ?_
        have ne117 : b1 ≠ b14 := Nat.ne_of_lt (by rw [hb14]; exact V13.lt)
        have ne118 : b1 ≠ b31 := Nat.ne_of_lt (by rw [hb31]; exact (((((V13.ext E14).other W18 ne117).other W20 ne117).other W23 ne117).other W25 ne117).lt)
        have f119 := ((((((((V13.ext E14).other W18 ne117).other W20 ne117).other W23 ne117).other W25 ne117).ext E31).other W34 ne118).other W36 ne118)
        refine Go.baload X36 hx hZ e36 f119 (k := (sn + 2)) (by have : ((v27 + (2 : Int32)).toInt - (v27.toInt + (2))) % 4294967296 = 0 := c_iadd _ _; have : -2147483648 ≤ (v27 + (2 : Int32)).toInt ∧ (v27 + (2 : Int32)).toInt < 2147483648 := rng32 _; have : -2147483648 ≤ v27.toInt ∧ v27.toInt < 2147483648 := rng32 _; omega) (by omega) rfl (hb hby at_183) (pc' := 184) rfl ?_
        refine g_goto X36 hx hby at_184 (pc' := 193) (by decide) (by decide) ?_
        exact J193 (T36, _, ((own_bs p2) (sn + 2))) ⟨X36.more (by decide) (by decide), e36, (Fr.snoc X36 Nj167 g32), (show ((own_bs p2) (sn + 2)) = own_c p2 p5 sn ln 2 from (by rw [own_c, if_pos (by omega)]))⟩
      · refine g_icmpYes X36 hx hby at_174 (pc' := 187) (flt (show ¬ ((2 : Int32) < v29) from fun q => hc174 (Int32.lt_iff_toInt_lt.mp q))).2.2.2 (by decide) (by decide) ?_
        refine g_iload X36 hx hby at_187 (pc' := 189) rfl rfl ?_
        refine g_iconst X36 hx hby at_189 (pc' := 190) rfl (z := (2 : Int32)) rfl ?_
        refine Go.callS X36 hx hZ hown (wi hw 1 rfl) (wi hw 2 rfl) (wi hw 3 rfl) (wi hw 4 rfl) (by decide) e36 (argsL := [(.int p5), (.int (2 : Int32))]) (rest := [(.int (2 : Int32)), (.ref b31)]) (W := 2) (rm_at l Z a0 hw p5 (2 : Int32) h36 n0 (Nat.le_trans z35 (Nat.le_of_eq (Wr.size W36).symm)) ) (hb hby at_190) (by rw [hml]; rfl) rfl pd6 rfl rfl (by decide) (by decide) (by decide) (by decide) ?_
        intro v120 T120 L120 X120 hQ120
        obtain ⟨rfl, Nq120, hh120⟩ := hQ120
        have N120 := Fr.app (Fr.snoc X36 Nj167 g32) Nq120
        refine Go.push (pc' := 193) rfl ?_
        exact J193 (T120, _, (own_at p5 (2 : Int32))) ⟨X120.more (by decide) (by decide), hh120, N120, (show (own_at p5 (2 : Int32)) = own_c p2 p5 sn ln 2 from (by rw [own_c, if_neg (by omega)]; rfl))⟩
    intro J167
    refine g_aload X34 hx hby at_142 (pc' := 144) rfl rfl rfl ?_
    refine g_iconst X34 hx hby at_144 (pc' := 145) rfl (z := (1 : Int32)) rfl ?_
    refine g_iload X34 hx hby at_145 (pc' := 147) rfl rfl ?_
    refine g_iconst X34 hx hby at_147 (pc' := 148) rfl (z := (1 : Int32)) rfl ?_
    by_cases hc148 : (1 : Int) < v29.toInt
    · refine g_icmpNo X34 hx hby at_148 (pc' := 151) (tlt (show (1 : Int32) < v29 from Int32.lt_iff_toInt_lt.mpr hc148)).2.2.2 rfl ?_
      refine g_aload X34 hx hby at_151 (pc' := 153) rfl rfl rfl ?_
      refine g_iload X34 hx hby at_153 (pc' := 155) rfl rfl ?_
      refine g_iconst X34 hx hby at_155 (pc' := 156) rfl (z := (1 : Int32)) rfl ?_
      refine g_iadd X34 hx hby at_156 (pc' := 157) rfl rfl ?_
      have ne121 : b1 ≠ b14 := Nat.ne_of_lt (by rw [hb14]; exact V13.lt)
      have ne122 : b1 ≠ b31 := Nat.ne_of_lt (by rw [hb31]; exact (((((V13.ext E14).other W18 ne121).other W20 ne121).other W23 ne121).other W25 ne121).lt)
      have f123 := (((((((V13.ext E14).other W18 ne121).other W20 ne121).other W23 ne121).other W25 ne121).ext E31).other W34 ne122)
      refine Go.baload X34 hx hZ e34 f123 (k := (sn + 1)) (by have : ((v27 + (1 : Int32)).toInt - (v27.toInt + (1))) % 4294967296 = 0 := c_iadd _ _; have : -2147483648 ≤ (v27 + (1 : Int32)).toInt ∧ (v27 + (1 : Int32)).toInt < 2147483648 := rng32 _; have : -2147483648 ≤ v27.toInt ∧ v27.toInt < 2147483648 := rng32 _; omega) (by omega) rfl (hb hby at_157) (pc' := 158) rfl ?_
      refine g_goto X34 hx hby at_158 (pc' := 167) (by decide) (by decide) ?_
      exact J167 (T34, _, ((own_bs p2) (sn + 1))) ⟨X34.more (by decide) (by decide), e34, (Fr.snoc X34 Nj141 g32), (show ((own_bs p2) (sn + 1)) = own_c p2 p5 sn ln 1 from (by rw [own_c, if_pos (by omega)]))⟩
    · refine g_icmpYes X34 hx hby at_148 (pc' := 161) (flt (show ¬ ((1 : Int32) < v29) from fun q => hc148 (Int32.lt_iff_toInt_lt.mp q))).2.2.2 (by decide) (by decide) ?_
      refine g_iload X34 hx hby at_161 (pc' := 163) rfl rfl ?_
      refine g_iconst X34 hx hby at_163 (pc' := 164) rfl (z := (1 : Int32)) rfl ?_
      refine Go.callS X34 hx hZ hown (wi hw 1 rfl) (wi hw 2 rfl) (wi hw 3 rfl) (wi hw 4 rfl) (by decide) e34 (argsL := [(.int p5), (.int (1 : Int32))]) (rest := [(.int (1 : Int32)), (.ref b31)]) (W := 2) (rm_at l Z a0 hw p5 (1 : Int32) h34 n0 z35 ) (hb hby at_164) (by rw [hml]; rfl) rfl pd6 rfl rfl (by decide) (by decide) (by decide) (by decide) ?_
      intro v124 T124 L124 X124 hQ124
      obtain ⟨rfl, Nq124, hh124⟩ := hQ124
      have N124 := Fr.app (Fr.snoc X34 Nj141 g32) Nq124
      refine Go.push (pc' := 167) rfl ?_
      exact J167 (T124, _, (own_at p5 (1 : Int32))) ⟨X124.more (by decide) (by decide), hh124, N124, (show (own_at p5 (1 : Int32)) = own_c p2 p5 sn ln 1 from (by rw [own_c, if_neg (by omega)]; rfl))⟩
  intro J141
  refine g_aload X31 hx hby at_119 (pc' := 121) rfl rfl rfl ?_
  refine g_iconst X31 hx hby at_121 (pc' := 122) rfl (z := (0 : Int32)) rfl ?_
  refine g_iload X31 hx hby at_122 (pc' := 124) rfl rfl ?_
  by_cases hc124 : (0 : Int) < v29.toInt
  · refine g_ifNo X31 hx hby at_124 (pc' := 127) (tlt (show (0 : Int32) < v29 from Int32.lt_iff_toInt_lt.mpr hc124)).2.2.2 rfl ?_
    refine g_aload X31 hx hby at_127 (pc' := 129) rfl rfl rfl ?_
    refine g_iload X31 hx hby at_129 (pc' := 131) rfl rfl ?_
    have ne125 : b1 ≠ b14 := Nat.ne_of_lt (by rw [hb14]; exact V13.lt)
    have f126 := ((((((V13.ext E14).other W18 ne125).other W20 ne125).other W23 ne125).other W25 ne125).ext E31)
    refine Go.baload X31 hx hZ e31 f126 (k := (sn + 0)) (by omega) (by omega) rfl (hb hby at_131) (pc' := 132) rfl ?_
    refine g_goto X31 hx hby at_132 (pc' := 141) (by decide) (by decide) ?_
    exact J141 (T31, _, ((own_bs p2) (sn + 0))) ⟨X31.more (by decide) (by decide), e31, (Fr.snoc X25 N24 g15), (show ((own_bs p2) (sn + 0)) = own_c p2 p5 sn ln 0 from (by rw [own_c, if_pos (by omega)]))⟩
  · refine g_ifYes X31 hx hby at_124 (pc' := 135) (flt (show ¬ ((0 : Int32) < v29) from fun q => hc124 (Int32.lt_iff_toInt_lt.mp q))).2.2.2 (by decide) (by decide) ?_
    refine g_iload X31 hx hby at_135 (pc' := 137) rfl rfl ?_
    refine g_iconst X31 hx hby at_137 (pc' := 138) rfl (z := (0 : Int32)) rfl ?_
    refine Go.callS X31 hx hZ hown (wi hw 1 rfl) (wi hw 2 rfl) (wi hw 3 rfl) (wi hw 4 rfl) (by decide) e31 (argsL := [(.int p5), (.int (0 : Int32))]) (rest := [(.int (0 : Int32)), (.ref b31)]) (W := 2) (rm_at l Z a0 hw p5 (0 : Int32) h31 n0 (Nat.le_trans (Nat.le_trans (Nat.le_trans z21 (Nat.le_of_eq (Wr.size W23).symm)) (Nat.le_of_eq (Wr.size W25).symm)) E31.1) ) (hb hby at_138) (by rw [hml]; rfl) rfl pd6 rfl rfl (by decide) (by decide) (by decide) (by decide) ?_
    intro v127 T127 L127 X127 hQ127
    obtain ⟨rfl, Nq127, hh127⟩ := hQ127
    have N127 := Fr.app (Fr.snoc X25 N24 g15) Nq127
    refine Go.push (pc' := 141) rfl ?_
    exact J141 (T127, _, (own_at p5 (0 : Int32))) ⟨X127.more (by decide) (by decide), hh127, N127, (show (own_at p5 (0 : Int32)) = own_c p2 p5 sn ln 0 from (by rw [own_c, if_neg (by omega)]; rfl))⟩
set_option maxRecDepth 65536 in
set_option maxHeartbeats 40000000 in
theorem comes_1 {Post : Tables → Env → Array Value → State → Outcome → State → Prop} (hpost : ∀ tb e args s v u, (limb_1_1.after args s (.returned v) u = true ∧ limb_1_2.after args s (.returned v) u = true) → FrameEnd s (.returned v) u (Jvm.fieldLocs frame_1_writes args s ++ Jvm.arrayLocs frame_1_arrays args s ++ Jvm.staticLocs frame_1_statics s) 24 128 → Post tb e args s (.returned v) u) :
    ArmFor flags0 classFile x code maxLocals ret World_1 tables_1 room_1 Calls_1 rest_1 Pre_1 Post := by
  intro l hfl _ _ p e ha hc hk s m args below hf hA hF happ hP
  obtain ⟨hcalls, hrest, hpre⟩ := hP
  obtain ⟨-, -, -, hnamed, -, -, -, hat⟩ := (Spec.applies_iff hf).mp happ
  obtain ⟨hg, hn⟩ := and_e (Cond.before_iff.mp (show (Jvm.Cond.and given_1 narrow_1).before args s = true from hpre))
  obtain ⟨g0, r0⟩ := and_e hg
  obtain ⟨g1, r1⟩ := and_e r0
  obtain ⟨g2, r2⟩ := and_e r1
  obtain ⟨g3, r3⟩ := and_e r2
  obtain ⟨g4, g5⟩ := and_e r3
  obtain ⟨w0, w1, w2, w3, w4, rfl⟩ : ∃ w0 w1 w2 w3 w4 : Value, args = #[w0, w1, w2, w3, w4] := by
    have hs : args.size = 5 := by simpa [Cond.value, given_1] using g0
    obtain ⟨L⟩ := args
    match L, hs with
    | [w0, w1, w2, w3, w4], _ => exact ⟨w0, w1, w2, w3, w4, rfl⟩
  have hw := fun d (hd : d ∈ tables_1) => atoms_spec (ws := Jvm.Cond.code x code maxLocals ret :: tables_1) hat d (List.mem_cons_of_mem _ hd)
  have hfit : Fit s := fun {y c} hc i hi => by
    obtain ⟨ha, rfl⟩ := Array.getElem?_eq_some_iff.mp hc
    have q := List.all_eq_true.mp ((Array.all_eq_true_iff_forall_mem.mp hF) _ (Array.getElem_mem ha)) i (List.mem_range.mpr hi)
    simpa [Array.getElem?_eq_getElem hi] using q
  obtain ⟨i0, ei0⟩ := is_v g1
  obtain rfl : w0 = (.int i0) := Option.some.inj ei0
  obtain ⟨i1, ei1⟩ := is_v g2
  obtain rfl : w1 = (.int i1) := Option.some.inj ei1
  obtain ⟨i2, ei2⟩ := is_v g3
  obtain rfl : w2 = (.int i2) := Option.some.inj ei2
  obtain ⟨i3, ei3⟩ := is_v g4
  obtain rfl : w3 = (.int i3) := Option.some.inj ei3
  obtain ⟨i4, ei4⟩ := is_v g5
  obtain rfl : w4 = (.int i4) := Option.some.inj ei4
  obtain ⟨n, o, h1, h2, h3, _, L, rfl, ⟨rfl, N⟩, hq⟩ := rm0 l s _ hw tables_1 i0 i1 i2 i3 i4 s.heap s.heap.size (Nat.le_refl _)  p e ha hc hk s m _ below hf ((Spec.applies_iff_loose hf).mp happ).1 ⟨rfl, State.Warmed39.refl s, rfl⟩ trivial
  refine ⟨n, _, h1, h2, h3, hpost _ _ _ _ _ _ ⟨Cond.after_iff.mpr rfl, Cond.after_iff.mpr (eq_i res_at (Term.int_eval (1)) rfl)⟩ ⟨hq.1, hq.2.1, (hq.2.2.sift fun y hy => Or.inr (N y hy)).mono (by decide) (by decide)⟩⟩
theorem main_1_1 : Claimed_1_1 := comes_1 fun _ _ _ _ _ _ h hF => ⟨h.1, hF⟩
theorem main_1_2 : Claimed_1_2 := comes_1 fun _ _ _ _ _ _ h hF => ⟨h.2, hF⟩
end Jvm.Pilot.@@N@@
namespace Jvm.Pilot.@@N@@
open Jvm Jvm.ClassFile Sem Op Lib Jvm.Free Jvm.Stand Jvm.Pilot.@@N@@.Jvm.D
/-! MADE BY PROGRAM (witnessworld.py) out of the Statement's table words and the real class files: 17 classes; the members and pool entries that the words name. The judged class is class 1, her method 3. -/
namespace start1
open Jvm.ClassFile
def u (s : String) : CpInfo := .utf8 (stringToUtf16 s)
/-- a pool by its gaps: so many unusable entries, then the entry; so many at the end -/
def gap : Nat → List CpInfo → List CpInfo
  | 0, r => r
  | n + 1, r => .unusable :: gap n r
def poolList (es : List (Nat × CpInfo)) (last : Nat) : List CpInfo := es.foldr (fun e r => gap e.1 (e.2 :: r)) (gap last [])
def pool (es : List (Nat × CpInfo)) (last : Nat) : Array CpInfo := ⟨poolList es last⟩
def fileOf (pool : Array CpInfo) (this : Nat) (attrs : Array Attribute := #[]) (ms : Array MethodInfo := #[]) (fl : Nat := 33) (sup : Nat := 0) (ifs : Array Nat := #[]) (fds : Array FieldInfo := #[]) : ClassFile where
  minorVersion := 0
  majorVersion := 65
  constantPool := pool
  accessFlags := fl
  thisClass := this
  superClass := sup
  interfaces := ifs
  fields := fds
  methods := ms
  attributes := attrs
def plain (name : String) (sup : Option ClassId) : Class where
  name := name
  kind := .ordinary
  loader := none
  accessFlags := 33
  super := sup
  interfaces := #[]
  cf := none
  fields := #[]
  methods := #[]
  instanceTypes := #[]
  staticTypes := #[]
  resolved := #[]
  callSites := []
  init := .initialized
  statics := none
  mirror := none

def pool0 : Array CpInfo := pool [(5, u "<init>"), (0, u "()V"), (1, .class_ 10), (1, u "java/lang/Object")] 113

def k0c0 : Code := { maxStack := 0, maxLocals := 1, code := object_method_1_code, exceptionTable := #[], attributes := #[] }
def k0m0 : Method := { name := "<init>", desc := "()V", sig := { parameters := [], returnType := none }, accessFlags := 1, code := some k0c0 }
/-- java/lang/Object -/
def k0 : Class := { plain "java/lang/Object" none with
  accessFlags := 33
  interfaces := #[]
  cf := some (fileOf pool0 8 #[] #[{ accessFlags := 1, nameIndex := 5, descriptorIndex := 6, attributes := #[] }] 33 0 #[] #[])
  fields := #[]
  methods := #[k0m0]
  instanceTypes := #[]
  staticTypes := #[]
  resolved := Array.replicate 124 none
  statics := none }

def pool1 : Array CpInfo := pool [(2, .class_ 4), (1, u "java/lang/Object"), (0, u "<init>"), (0, u "()V"), (0, .integer 923521), (0, .methodref 9 10), (0, .class_ 11), (0, .nameAndType 12 13), (0, u "com/example/tweak_tags/tweaktags/NameKeyPointPinLaw"), (0, u "at"), (0, u "(II)B"), (0, .methodref 9 15), (0, .nameAndType 16 17), (0, u "pow31"), (0, u "(I)I"), (0, .class_ 19), (0, u "com/example/tweak_tags/tweaktags/NameKey"), (0, .methodref 18 21), (0, .nameAndType 5 22), (0, u "(I[BII)V"), (0, .methodref 18 24), (0, .nameAndType 25 26), (0, u "point"), (0, u "(I[BII)Lcom/example/tweak_tags/tweaktags/NameKey;"), (0, .methodref 18 28), (0, .nameAndType 29 30), (0, u "hashCode"), (0, u "()I"), (0, .methodref 18 32), (0, .nameAndType 33 34), (0, u "equals"), (0, u "(Ljava/lang/Object;)Z"), (0, .methodref 18 36), (0, .nameAndType 37 38), (0, u "compareTo"), (0, u "(Lcom/example/tweak_tags/tweaktags/NameKey;)I"), (3, u "law"), (0, u "(IIIII)Z")] 4

def k1m0 : Method := { name := "<init>", desc := "()V", sig := { parameters := [], returnType := none }, accessFlags := 1, code := none }
def k1c1 : Code := { maxStack := 2, maxLocals := 1, code := method_2_code, exceptionTable := #[], attributes := #[] }
def k1m1 : Method := { name := "pow31", desc := "(I)I", sig := { parameters := [.int], returnType := some .int }, accessFlags := 10, code := some k1c1 }
def k1c2 : Code := { maxStack := 3, maxLocals := 2, code := method_3_code, exceptionTable := #[], attributes := #[] }
def k1m2 : Method := { name := "at", desc := "(II)B", sig := { parameters := [.int, .int], returnType := some .byte }, accessFlags := 10, code := some k1c2 }
def k1c3 : Code := { maxStack := 6, maxLocals := 15, code := code, exceptionTable := #[], attributes := #[] }
def k1m3 : Method := { name := "law", desc := "(IIIII)Z", sig := { parameters := [.int, .int, .int, .int, .int], returnType := some .boolean }, accessFlags := 9, code := some k1c3 }
/-- com/example/tweak_tags/tweaktags/NameKeyPointPinLaw -/
def k1 : Class := { plain "com/example/tweak_tags/tweaktags/NameKeyPointPinLaw" (some 0) with
  accessFlags := 49
  interfaces := #[]
  cf := some (fileOf pool1 9 #[] #[{ accessFlags := 1, nameIndex := 5, descriptorIndex := 6, attributes := #[] }, { accessFlags := 10, nameIndex := 16, descriptorIndex := 17, attributes := #[] }, { accessFlags := 10, nameIndex := 12, descriptorIndex := 13, attributes := #[] }, { accessFlags := 9, nameIndex := 42, descriptorIndex := 43, attributes := #[] }] 49 2 #[] #[])
  fields := #[]
  methods := #[k1m0, k1m1, k1m2, k1m3]
  instanceTypes := #[]
  staticTypes := #[]
  resolved := Array.replicate 48 none
  statics := none }

def pool2 : Array CpInfo := pool [(1, .class_ 2), (0, u "java/lang/Comparable"), (0, .class_ 4), (0, u "java/lang/Object")] 7

/-- java/lang/Comparable -/
def k2 : Class := { plain "java/lang/Comparable" (some 0) with
  accessFlags := 1537
  interfaces := #[]
  cf := some (fileOf pool2 1 #[] #[] 1537 3 #[] #[])
  fields := #[]
  methods := #[]
  instanceTypes := #[]
  staticTypes := #[]
  resolved := Array.replicate 12 none
  statics := none }

def pool3 : Array CpInfo := pool [(2, .class_ 4), (1, u "com/example/tweak_tags/tweaktags/NameKey"), (0, u "<init>"), (0, u "(I[BII)V"), (0, .methodref 8 9), (0, .class_ 10), (0, .nameAndType 5 11), (0, u "java/lang/Object"), (0, u "()V"), (0, .methodref 2 13), (0, .nameAndType 14 15), (0, u "point"), (0, u "(I[BII)Lcom/example/tweak_tags/tweaktags/NameKey;"), (0, .fieldref 2 17), (0, .nameAndType 18 19), (0, u "number"), (0, u "I"), (0, .fieldref 2 21), (0, .nameAndType 22 23), (0, u "bytes"), (0, u "[B"), (0, .fieldref 2 25), (0, .nameAndType 26 19), (0, u "start"), (0, .fieldref 2 28), (0, .nameAndType 29 19), (0, u "end"), (0, .fieldref 2 31), (0, .nameAndType 32 19), (0, u "hash"), (0, .methodref 34 35), (0, .class_ 36), (0, .nameAndType 37 38), (0, u "java/util/Arrays"), (0, u "equals"), (0, u "([BII[BII)Z"), (0, .methodref 40 41), (0, .class_ 42), (0, .nameAndType 43 44), (0, u "java/lang/Integer"), (0, u "compare"), (0, u "(II)I"), (0, .methodref 34 46), (0, .nameAndType 47 48), (0, u "compareUnsigned"), (0, u "([BII[BII)I"), (2, u "compareTo"), (0, u "(Lcom/example/tweak_tags/tweaktags/NameKey;)I"), (0, .class_ 54), (0, u "java/lang/Comparable"), (3, u "(Ljava/lang/Object;)Z"), (0, u "hashCode"), (0, u "()I")] 6

def k3m0 : Method := { name := "<init>", desc := "()V", sig := { parameters := [], returnType := none }, accessFlags := 0, code := none }
def k3c1 : Code := { maxStack := 5, maxLocals := 5, code := prog_78_method_2_code, exceptionTable := #[], attributes := #[] }
def k3m1 : Method := { name := "<init>", desc := "(I[BII)V", sig := { parameters := [.int, (.array .byte), .int, .int], returnType := none }, accessFlags := 0, code := some k3c1 }
def k3c2 : Code := { maxStack := 3, maxLocals := 7, code := prog_78_method_3_code, exceptionTable := #[], attributes := #[] }
def k3m2 : Method := { name := "point", desc := "(I[BII)Lcom/example/tweak_tags/tweaktags/NameKey;", sig := { parameters := [.int, (.array .byte), .int, .int], returnType := some (.object "com/example/tweak_tags/tweaktags/NameKey") }, accessFlags := 0, code := some k3c2 }
def k3c3 : Code := { maxStack := 6, maxLocals := 3, code := prog_78_method_4_code, exceptionTable := #[], attributes := #[] }
def k3m3 : Method := { name := "equals", desc := "(Ljava/lang/Object;)Z", sig := { parameters := [(.object "java/lang/Object")], returnType := some .boolean }, accessFlags := 1, code := some k3c3 }
def k3c4 : Code := { maxStack := 1, maxLocals := 1, code := prog_78_method_5_code, exceptionTable := #[], attributes := #[] }
def k3m4 : Method := { name := "hashCode", desc := "()I", sig := { parameters := [], returnType := some .int }, accessFlags := 1, code := some k3c4 }
def k3c5 : Code := { maxStack := 6, maxLocals := 3, code := prog_78_method_6_code, exceptionTable := #[], attributes := #[] }
def k3m5 : Method := { name := "compareTo", desc := "(Lcom/example/tweak_tags/tweaktags/NameKey;)I", sig := { parameters := [(.object "com/example/tweak_tags/tweaktags/NameKey")], returnType := some .int }, accessFlags := 1, code := some k3c5 }
/-- com/example/tweak_tags/tweaktags/NameKey -/
def k3 : Class := { plain "com/example/tweak_tags/tweaktags/NameKey" (some 0) with
  accessFlags := 48
  interfaces := #[2]
  cf := some (fileOf pool3 2 #[] #[{ accessFlags := 0, nameIndex := 5, descriptorIndex := 11, attributes := #[] }, { accessFlags := 0, nameIndex := 5, descriptorIndex := 6, attributes := #[] }, { accessFlags := 0, nameIndex := 14, descriptorIndex := 15, attributes := #[] }, { accessFlags := 1, nameIndex := 37, descriptorIndex := 58, attributes := #[] }, { accessFlags := 1, nameIndex := 59, descriptorIndex := 60, attributes := #[] }, { accessFlags := 1, nameIndex := 51, descriptorIndex := 52, attributes := #[] }] 48 8 #[53] #[{ accessFlags := 2, nameIndex := 18, descriptorIndex := 19, attributes := #[] }, { accessFlags := 2, nameIndex := 22, descriptorIndex := 23, attributes := #[] }, { accessFlags := 2, nameIndex := 26, descriptorIndex := 19, attributes := #[] }, { accessFlags := 2, nameIndex := 29, descriptorIndex := 19, attributes := #[] }, { accessFlags := 2, nameIndex := 32, descriptorIndex := 19, attributes := #[] }])
  fields := #[{ name := "number", type := .int, accessFlags := 2, slot := 0, constantValue := 0 }, { name := "bytes", type := (.array .byte), accessFlags := 2, slot := 1, constantValue := 0 }, { name := "start", type := .int, accessFlags := 2, slot := 2, constantValue := 0 }, { name := "end", type := .int, accessFlags := 2, slot := 3, constantValue := 0 }, { name := "hash", type := .int, accessFlags := 2, slot := 4, constantValue := 0 }]
  methods := #[k3m0, k3m1, k3m2, k3m3, k3m4, k3m5]
  instanceTypes := #[.int, (.array .byte), .int, .int, .int]
  staticTypes := #[]
  resolved := Array.replicate 67 none
  statics := none }

def pool4 : Array CpInfo := pool [(2, .class_ 4), (1, u "java/lang/Object"), (0, u "<init>"), (0, u "()V"), (6, .methodref 14 15), (0, .class_ 16), (0, .nameAndType 17 18), (0, u "java/util/Arrays"), (0, u "rangeCheck"), (0, u "(III)V"), (55, .class_ 76), (1, u "java/util/Arrays$NaturalOrder"), (36, .class_ 115), (1, u "java/util/Arrays$LegacyMergeSort"), (1, u "Z"), (128, .class_ 248), (1, u "jdk/internal/util/ArraysSupport"), (0, u "mismatch"), (25, .methodref 246 276), (0, .nameAndType 249 277), (0, u "([BI[BII)I"), (20, u "equals"), (5, .methodref 305 306), (0, .class_ 307), (0, .nameAndType 308 309), (0, u "java/lang/Math"), (0, u "min"), (0, u "(II)I"), (65, .class_ 376), (0, u "java/util/Arrays$ArrayList"), (68, u "$assertionsDisabled"), (242, u "compareUnsigned"), (26, u "MIN_ARRAY_SORT_GRAN"), (0, u "I"), (2, u "INSERTIONSORT_THRESHOLD"), (111, u "([BII[BII)Z"), (105, u "([BII[BII)I"), (37, .class_ 976), (0, u "java/util/Arrays$ArrayItr")] 52

def k4m0 : Method := { name := "<init>", desc := "()V", sig := { parameters := [], returnType := none }, accessFlags := 2, code := none }
def k4c1 : Code := { maxStack := 4, maxLocals := 3, code := jdk_65_method_30_code, exceptionTable := #[], attributes := #[] }
def k4m1 : Method := { name := "rangeCheck", desc := "(III)V", sig := { parameters := [.int, .int, .int], returnType := none }, accessFlags := 8, code := some k4c1 }
def k4c2 : Code := { maxStack := 5, maxLocals := 8, code := jdk_65_method_90_code, exceptionTable := #[], attributes := #[] }
def k4m2 : Method := { name := "equals", desc := "([BII[BII)Z", sig := { parameters := [(.array .byte), .int, .int, (.array .byte), .int, .int], returnType := some .boolean }, accessFlags := 9, code := some k4c2 }
def k4c3 : Code := { maxStack := 6, maxLocals := 9, code := jdk_65_method_202_code, exceptionTable := #[], attributes := #[] }
def k4m3 : Method := { name := "compareUnsigned", desc := "([BII[BII)I", sig := { parameters := [(.array .byte), .int, .int, (.array .byte), .int, .int], returnType := some .int }, accessFlags := 9, code := some k4c3 }
/-- java/util/Arrays -/
def k4 : Class := { plain "java/util/Arrays" (some 0) with
  accessFlags := 49
  interfaces := #[]
  cf := some (fileOf pool4 14 #[.nestMembers #[975, 375, 113, 74]] #[{ accessFlags := 2, nameIndex := 5, descriptorIndex := 6, attributes := #[] }, { accessFlags := 8, nameIndex := 17, descriptorIndex := 18, attributes := #[] }, { accessFlags := 9, nameIndex := 298, descriptorIndex := 831, attributes := #[] }, { accessFlags := 9, nameIndex := 688, descriptorIndex := 937, attributes := #[] }] 49 2 #[] #[{ accessFlags := 26, nameIndex := 715, descriptorIndex := 716, attributes := #[] }, { accessFlags := 26, nameIndex := 719, descriptorIndex := 716, attributes := #[] }, { accessFlags := 4120, nameIndex := 445, descriptorIndex := 117, attributes := #[] }])
  fields := #[{ name := "MIN_ARRAY_SORT_GRAN", type := .int, accessFlags := 26, slot := 0, constantValue := 0 }, { name := "INSERTIONSORT_THRESHOLD", type := .int, accessFlags := 26, slot := 1, constantValue := 0 }, { name := "$assertionsDisabled", type := .boolean, accessFlags := 4120, slot := 2, constantValue := 0 }]
  methods := #[k4m0, k4m1, k4m2, k4m3]
  instanceTypes := #[]
  staticTypes := #[.int, .int, .boolean]
  resolved := Array.replicate 1029 none
  statics := none }

def pool5 : Array CpInfo := pool [(9, u "<init>"), (6, .class_ 18), (1, u "java/lang/Object"), (0, u "()V"), (1, .class_ 23), (1, u "jdk/internal/util/ArraysSupport"), (0, u "LOG2_ARRAY_LONG_INDEX_SCALE"), (0, u "I"), (2, u "U"), (0, u "Ljdk/internal/misc/Unsafe;"), (8, u "BIG_ENDIAN"), (0, u "Z"), (8, u "LOG2_BYTE_BIT_SIZE"), (4, u "LOG2_ARRAY_INT_INDEX_SCALE"), (54, u "JLA"), (0, u "Ljdk/internal/access/JavaLangAccess;"), (11, u "LOG2_ARRAY_BOOLEAN_INDEX_SCALE"), (9, u "LOG2_ARRAY_BYTE_INDEX_SCALE"), (5, u "LOG2_ARRAY_CHAR_INDEX_SCALE"), (5, u "LOG2_ARRAY_SHORT_INDEX_SCALE"), (5, u "mismatch"), (12, u "LOG2_ARRAY_FLOAT_INDEX_SCALE"), (24, u "LOG2_ARRAY_DOUBLE_INDEX_SCALE"), (89, u "T_BOOLEAN"), (2, u "T_CHAR"), (1, u "T_FLOAT"), (1, u "T_DOUBLE"), (1, u "T_BYTE"), (1, u "T_SHORT"), (1, u "T_INT"), (1, u "T_LONG"), (1, u "SOFT_MAX_ARRAY_LENGTH"), (42, u "([BI[BII)I")] 40

def k5m0 : Method := { name := "<init>", desc := "()V", sig := { parameters := [], returnType := none }, accessFlags := 2, code := none }
def k5c1 : Code := { maxStack := 8, maxLocals := 8, code := jdk_48_method_14_code, exceptionTable := #[], attributes := #[] }
def k5m1 : Method := { name := "mismatch", desc := "([BI[BII)I", sig := { parameters := [(.array .byte), .int, (.array .byte), .int, .int], returnType := some .int }, accessFlags := 9, code := some k5c1 }
/-- jdk/internal/util/ArraysSupport -/
def k5 : Class := { plain "jdk/internal/util/ArraysSupport" (some 0) with
  accessFlags := 33
  interfaces := #[]
  cf := some (fileOf pool5 21 #[] #[{ accessFlags := 2, nameIndex := 9, descriptorIndex := 19, attributes := #[] }, { accessFlags := 9, nameIndex := 149, descriptorIndex := 337, attributes := #[] }] 33 16 #[] #[{ accessFlags := 24, nameIndex := 28, descriptorIndex := 29, attributes := #[] }, { accessFlags := 26, nameIndex := 38, descriptorIndex := 39, attributes := #[] }, { accessFlags := 25, nameIndex := 121, descriptorIndex := 25, attributes := #[] }, { accessFlags := 25, nameIndex := 131, descriptorIndex := 25, attributes := #[] }, { accessFlags := 25, nameIndex := 137, descriptorIndex := 25, attributes := #[] }, { accessFlags := 25, nameIndex := 143, descriptorIndex := 25, attributes := #[] }, { accessFlags := 25, nameIndex := 53, descriptorIndex := 25, attributes := #[] }, { accessFlags := 25, nameIndex := 24, descriptorIndex := 25, attributes := #[] }, { accessFlags := 25, nameIndex := 162, descriptorIndex := 25, attributes := #[] }, { accessFlags := 25, nameIndex := 187, descriptorIndex := 25, attributes := #[] }, { accessFlags := 26, nameIndex := 48, descriptorIndex := 25, attributes := #[] }, { accessFlags := 25, nameIndex := 277, descriptorIndex := 25, attributes := #[] }, { accessFlags := 25, nameIndex := 280, descriptorIndex := 25, attributes := #[] }, { accessFlags := 25, nameIndex := 282, descriptorIndex := 25, attributes := #[] }, { accessFlags := 25, nameIndex := 284, descriptorIndex := 25, attributes := #[] }, { accessFlags := 25, nameIndex := 286, descriptorIndex := 25, attributes := #[] }, { accessFlags := 25, nameIndex := 288, descriptorIndex := 25, attributes := #[] }, { accessFlags := 25, nameIndex := 290, descriptorIndex := 25, attributes := #[] }, { accessFlags := 25, nameIndex := 292, descriptorIndex := 25, attributes := #[] }, { accessFlags := 26, nameIndex := 108, descriptorIndex := 109, attributes := #[] }, { accessFlags := 25, nameIndex := 294, descriptorIndex := 25, attributes := #[] }])
  fields := #[{ name := "U", type := (.object "jdk/internal/misc/Unsafe"), accessFlags := 24, slot := 0, constantValue := 0 }, { name := "BIG_ENDIAN", type := .boolean, accessFlags := 26, slot := 1, constantValue := 0 }, { name := "LOG2_ARRAY_BOOLEAN_INDEX_SCALE", type := .int, accessFlags := 25, slot := 2, constantValue := 0 }, { name := "LOG2_ARRAY_BYTE_INDEX_SCALE", type := .int, accessFlags := 25, slot := 3, constantValue := 0 }, { name := "LOG2_ARRAY_CHAR_INDEX_SCALE", type := .int, accessFlags := 25, slot := 4, constantValue := 0 }, { name := "LOG2_ARRAY_SHORT_INDEX_SCALE", type := .int, accessFlags := 25, slot := 5, constantValue := 0 }, { name := "LOG2_ARRAY_INT_INDEX_SCALE", type := .int, accessFlags := 25, slot := 6, constantValue := 0 }, { name := "LOG2_ARRAY_LONG_INDEX_SCALE", type := .int, accessFlags := 25, slot := 7, constantValue := 0 }, { name := "LOG2_ARRAY_FLOAT_INDEX_SCALE", type := .int, accessFlags := 25, slot := 8, constantValue := 0 }, { name := "LOG2_ARRAY_DOUBLE_INDEX_SCALE", type := .int, accessFlags := 25, slot := 9, constantValue := 0 }, { name := "LOG2_BYTE_BIT_SIZE", type := .int, accessFlags := 26, slot := 10, constantValue := 0 }, { name := "T_BOOLEAN", type := .int, accessFlags := 25, slot := 11, constantValue := 0 }, { name := "T_CHAR", type := .int, accessFlags := 25, slot := 12, constantValue := 0 }, { name := "T_FLOAT", type := .int, accessFlags := 25, slot := 13, constantValue := 0 }, { name := "T_DOUBLE", type := .int, accessFlags := 25, slot := 14, constantValue := 0 }, { name := "T_BYTE", type := .int, accessFlags := 25, slot := 15, constantValue := 0 }, { name := "T_SHORT", type := .int, accessFlags := 25, slot := 16, constantValue := 0 }, { name := "T_INT", type := .int, accessFlags := 25, slot := 17, constantValue := 0 }, { name := "T_LONG", type := .int, accessFlags := 25, slot := 18, constantValue := 0 }, { name := "JLA", type := (.object "jdk/internal/access/JavaLangAccess"), accessFlags := 26, slot := 19, constantValue := 0 }, { name := "SOFT_MAX_ARRAY_LENGTH", type := .int, accessFlags := 25, slot := 20, constantValue := 0 }]
  methods := #[k5m0, k5m1]
  instanceTypes := #[]
  staticTypes := #[(.object "jdk/internal/misc/Unsafe"), .boolean, .int, .int, .int, .int, .int, .int, .int, .int, .int, .int, .int, .int, .int, .int, .int, .int, .int, (.object "jdk/internal/access/JavaLangAccess"), .int]
  resolved := Array.replicate 378 none
  statics := none }

def pool6 : Array CpInfo := pool [(1, .class_ 2), (0, u "java/io/Serializable"), (0, .class_ 4), (0, u "java/lang/Object")] 2

/-- java/io/Serializable -/
def k6 : Class := { plain "java/io/Serializable" (some 0) with
  accessFlags := 1537
  interfaces := #[]
  cf := some (fileOf pool6 1 #[] #[] 1537 3 #[] #[])
  fields := #[]
  methods := #[]
  instanceTypes := #[]
  staticTypes := #[]
  resolved := Array.replicate 7 none
  statics := none }

def pool7 : Array CpInfo := pool [(2, .class_ 4), (1, u "java/lang/Object"), (0, u "<init>"), (0, u "()V"), (1, .class_ 10), (1, u "java/lang/Number"), (2, .class_ 14), (0, u "java/io/Serializable"), (0, u "serialVersionUID"), (0, u "J")] 20

def k7m0 : Method := { name := "<init>", desc := "()V", sig := { parameters := [], returnType := none }, accessFlags := 1, code := none }
/-- java/lang/Number -/
def k7 : Class := { plain "java/lang/Number" (some 0) with
  accessFlags := 1057
  interfaces := #[6]
  cf := some (fileOf pool7 8 #[] #[{ accessFlags := 1, nameIndex := 5, descriptorIndex := 6, attributes := #[] }] 1057 2 #[13] #[{ accessFlags := 26, nameIndex := 15, descriptorIndex := 16, attributes := #[] }])
  fields := #[{ name := "serialVersionUID", type := .long, accessFlags := 26, slot := 0, constantValue := 0 }]
  methods := #[k7m0]
  instanceTypes := #[]
  staticTypes := #[.long]
  resolved := Array.replicate 37 none
  statics := none }

def pool8 : Array CpInfo := pool [(1, .class_ 2), (0, u "java/lang/constant/Constable"), (0, .class_ 4), (0, u "java/lang/Object")] 6

/-- java/lang/constant/Constable -/
def k8 : Class := { plain "java/lang/constant/Constable" (some 0) with
  accessFlags := 1537
  interfaces := #[]
  cf := some (fileOf pool8 1 #[] #[] 1537 3 #[] #[])
  fields := #[]
  methods := #[]
  instanceTypes := #[]
  staticTypes := #[]
  resolved := Array.replicate 11 none
  statics := none }

def pool9 : Array CpInfo := pool [(1, .class_ 2), (0, u "java/lang/constant/ConstantDesc"), (0, .class_ 4), (0, u "java/lang/Object")] 32

/-- java/lang/constant/ConstantDesc -/
def k9 : Class := { plain "java/lang/constant/ConstantDesc" (some 0) with
  accessFlags := 1537
  interfaces := #[]
  cf := some (fileOf pool9 1 #[] #[] 1537 3 #[] #[])
  fields := #[]
  methods := #[]
  instanceTypes := #[]
  staticTypes := #[]
  resolved := Array.replicate 37 none
  statics := none }

def pool10 : Array CpInfo := pool [(1, .class_ 2), (0, u "java/lang/Integer"), (16, u "digits"), (0, u "[C"), (39, u "(II)I"), (24, u "DigitOnes"), (0, u "[B"), (2, u "DigitTens"), (99, .class_ 190), (0, u "java/lang/Integer$IntegerCache"), (3, u "I"), (8, .class_ 204), (0, u "java/lang/Number"), (2, u "value"), (53, u "compare"), (40, u "TYPE"), (0, u "Ljava/lang/Class;"), (0, .class_ 305), (0, u "java/lang/Comparable"), (0, .class_ 307), (0, u "java/lang/constant/Constable"), (0, .class_ 309), (0, u "java/lang/constant/ConstantDesc"), (0, u "MIN_VALUE"), (1, u "MAX_VALUE"), (3, u "SIZE"), (1, u "BYTES"), (1, u "serialVersionUID"), (0, u "J")] 131

def k10c0 : Code := { maxStack := 2, maxLocals := 2, code := jdk_33_method_40_code, exceptionTable := #[], attributes := #[] }
def k10m0 : Method := { name := "compare", desc := "(II)I", sig := { parameters := [.int, .int], returnType := some .int }, accessFlags := 9, code := some k10c0 }
/-- java/lang/Integer -/
def k10 : Class := { plain "java/lang/Integer" (some 7) with
  accessFlags := 49
  interfaces := #[2, 8, 9]
  cf := some (fileOf pool10 1 #[.nestMembers #[189]] #[{ accessFlags := 9, nameIndex := 261, descriptorIndex := 60, attributes := #[] }] 49 203 #[304, 306, 308] #[{ accessFlags := 25, nameIndex := 310, descriptorIndex := 194, attributes := #[] }, { accessFlags := 25, nameIndex := 312, descriptorIndex := 194, attributes := #[] }, { accessFlags := 25, nameIndex := 302, descriptorIndex := 303, attributes := #[] }, { accessFlags := 24, nameIndex := 19, descriptorIndex := 20, attributes := #[] }, { accessFlags := 24, nameIndex := 89, descriptorIndex := 86, attributes := #[] }, { accessFlags := 24, nameIndex := 85, descriptorIndex := 86, attributes := #[] }, { accessFlags := 18, nameIndex := 207, descriptorIndex := 194, attributes := #[] }, { accessFlags := 25, nameIndex := 316, descriptorIndex := 194, attributes := #[] }, { accessFlags := 25, nameIndex := 318, descriptorIndex := 194, attributes := #[] }, { accessFlags := 26, nameIndex := 320, descriptorIndex := 321, attributes := #[] }])
  fields := #[{ name := "MIN_VALUE", type := .int, accessFlags := 25, slot := 0, constantValue := 0 }, { name := "MAX_VALUE", type := .int, accessFlags := 25, slot := 1, constantValue := 0 }, { name := "TYPE", type := (.object "java/lang/Class"), accessFlags := 25, slot := 2, constantValue := 0 }, { name := "digits", type := (.array .char), accessFlags := 24, slot := 3, constantValue := 0 }, { name := "DigitTens", type := (.array .byte), accessFlags := 24, slot := 4, constantValue := 0 }, { name := "DigitOnes", type := (.array .byte), accessFlags := 24, slot := 5, constantValue := 0 }, { name := "value", type := .int, accessFlags := 18, slot := 0, constantValue := 0 }, { name := "SIZE", type := .int, accessFlags := 25, slot := 6, constantValue := 0 }, { name := "BYTES", type := .int, accessFlags := 25, slot := 7, constantValue := 0 }, { name := "serialVersionUID", type := .long, accessFlags := 26, slot := 8, constantValue := 0 }]
  methods := #[k10m0]
  instanceTypes := #[.int]
  staticTypes := #[.int, .int, (.object "java/lang/Class"), (.array .char), (.array .byte), (.array .byte), .int, .int, .long]
  resolved := Array.replicate 453 none
  statics := none }

def pool11 : Array CpInfo := pool [(1, .class_ 2), (0, u "java/lang/Math"), (1, .class_ 6), (1, u "java/lang/Object"), (0, u "<init>"), (0, u "()V"), (89, .class_ 100), (1, u "java/lang/Math$RandomNumberGeneratorHolder"), (71, u "negativeZeroFloatBits"), (0, u "J"), (2, u "negativeZeroDoubleBits"), (24, u "min"), (43, u "$assertionsDisabled"), (0, u "Z"), (88, u "(II)I"), (2, u "twoToTheDoubleScaleDown"), (0, u "D"), (4, u "twoToTheDoubleScaleUp"), (9, u "E"), (3, u "PI"), (2, u "TAU"), (2, u "DEGREES_TO_RADIANS"), (0, u "RADIANS_TO_DEGREES")] 94

def k11m0 : Method := { name := "<init>", desc := "()V", sig := { parameters := [], returnType := none }, accessFlags := 2, code := none }
def k11c1 : Code := { maxStack := 2, maxLocals := 2, code := jdk_29_method_69_code, exceptionTable := #[], attributes := #[] }
def k11m1 : Method := { name := "min", desc := "(II)I", sig := { parameters := [.int, .int], returnType := some .int }, accessFlags := 9, code := some k11c1 }
/-- java/lang/Math -/
def k11 : Class := { plain "java/lang/Math" (some 0) with
  accessFlags := 49
  interfaces := #[]
  cf := some (fileOf pool11 1 #[.nestMembers #[98]] #[{ accessFlags := 2, nameIndex := 7, descriptorIndex := 8, attributes := #[] }, { accessFlags := 9, nameIndex := 201, descriptorIndex := 335, attributes := #[] }] 49 4 #[] #[{ accessFlags := 25, nameIndex := 354, descriptorIndex := 339, attributes := #[] }, { accessFlags := 25, nameIndex := 358, descriptorIndex := 339, attributes := #[] }, { accessFlags := 25, nameIndex := 361, descriptorIndex := 339, attributes := #[] }, { accessFlags := 26, nameIndex := 364, descriptorIndex := 339, attributes := #[] }, { accessFlags := 26, nameIndex := 365, descriptorIndex := 339, attributes := #[] }, { accessFlags := 26, nameIndex := 172, descriptorIndex := 173, attributes := #[] }, { accessFlags := 26, nameIndex := 176, descriptorIndex := 173, attributes := #[] }, { accessFlags := 8, nameIndex := 344, descriptorIndex := 339, attributes := #[] }, { accessFlags := 8, nameIndex := 338, descriptorIndex := 339, attributes := #[] }, { accessFlags := 4120, nameIndex := 245, descriptorIndex := 246, attributes := #[] }])
  fields := #[{ name := "E", type := .double, accessFlags := 25, slot := 0, constantValue := 0 }, { name := "PI", type := .double, accessFlags := 25, slot := 1, constantValue := 0 }, { name := "TAU", type := .double, accessFlags := 25, slot := 2, constantValue := 0 }, { name := "DEGREES_TO_RADIANS", type := .double, accessFlags := 26, slot := 3, constantValue := 0 }, { name := "RADIANS_TO_DEGREES", type := .double, accessFlags := 26, slot := 4, constantValue := 0 }, { name := "negativeZeroFloatBits", type := .long, accessFlags := 26, slot := 5, constantValue := 0 }, { name := "negativeZeroDoubleBits", type := .long, accessFlags := 26, slot := 6, constantValue := 0 }, { name := "twoToTheDoubleScaleUp", type := .double, accessFlags := 8, slot := 7, constantValue := 0 }, { name := "twoToTheDoubleScaleDown", type := .double, accessFlags := 8, slot := 8, constantValue := 0 }, { name := "$assertionsDisabled", type := .boolean, accessFlags := 4120, slot := 9, constantValue := 0 }]
  methods := #[k11m0, k11m1]
  instanceTypes := #[]
  staticTypes := #[.double, .double, .double, .double, .double, .long, .long, .double, .double, .boolean]
  resolved := Array.replicate 460 none
  statics := none }

def pool12 : Array CpInfo := pool [(1, u "java/lang/Cloneable"), (0, .class_ 1), (0, u "java/lang/Object"), (0, .class_ 3)] 3

/-- java/lang/Cloneable -/
def k12 : Class := { plain "java/lang/Cloneable" (some 0) with
  accessFlags := 1537
  interfaces := #[]
  cf := some (fileOf pool12 2 #[] #[] 1537 4 #[] #[])
  fields := #[]
  methods := #[]
  instanceTypes := #[]
  staticTypes := #[]
  resolved := Array.replicate 8 none
  statics := none }

/-- the primitive byte -/
def k13 : Class := { plain "byte" none with kind := .primitive 'B', accessFlags := 0x411 }
/-- [B -/
def k14 : Class := { plain "[B" (some 0) with kind := .array 13 .byte, interfaces := #[12, 6], accessFlags := 1041 }

/-- the primitive int -/
def k15 : Class := { plain "int" none with kind := .primitive 'I', accessFlags := 0x411 }
/-- [I -/
def k16 : Class := { plain "[I" (some 0) with kind := .array 15 .int, interfaces := #[12, 6], accessFlags := 1041 }

def heap : Heap := #[]
def classes : Array Class := #[k0, k1, k2, k3, k4, k5, k6, k7, k8, k9, k10, k11, k12, k13, k14, k15, k16]
def interned : List (Array UInt16 × Addr) := []
def slotsUsed : Nat := 0
def theMethod : MethodId := ⟨1, 3⟩
def args0 : Array Value := #[.int 5, .int 9, .int 5, .int 7, .int 9]
def aboutOver (below : List Frame) : State where
  vm := { classes := classes, interned := interned.toArray }
  heap := heap
  slotsUsed := slotsUsed
  threads := #[{ frames := .invoking theMethod args0 :: below }]
def below0 : List Frame := [.native { method := ⟨0, 0⟩, args := #[] }]
def about1 : State := aboutOver below0
def p0 : Program := .bare "" "" ""
def e0 : Env := launch0.env 0 0 0
theorem w_frames : about1.frames = Frame.invoking theMethod args0 :: below0 := rfl
set_option maxRecDepth 65536 in
theorem w_args : argsFit about1.vm theMethod args0 = true := by decide +kernel
set_option maxRecDepth 65536 in
theorem w_heap : heapFits about1 = true := by decide +kernel
set_option maxRecDepth 65536 in
theorem w_runnable : about1.curStatus? = some .runnable := by decide +kernel
set_option maxRecDepth 65536 in
theorem w_alone : about1.alone = true := by decide +kernel
set_option maxRecDepth 65536 in
theorem w_named : about1.methodNamed? x = some theMethod := by decide +kernel
set_option maxRecDepth 65536 in
theorem w_hears : about1.hears theMethod below0 = true := by decide +kernel
set_option maxRecDepth 65536 in
theorem w_ripe : about1.ripe theMethod args0 below0 = true := by decide +kernel
theorem w_running : about1.status = .running := rfl
set_option maxRecDepth 65536 in
theorem w_room : about1.hasRoom e0.platform room_1 = true :=
  launch0.hasRoom_least _ room_1 (by decide +kernel) (by decide +kernel) (by decide +kernel) (by decide +kernel) (by decide +kernel) (by decide +kernel)
theorem allAtoms_all (ts : List Jvm.Cond) (a : Array Jvm.Value) (st : Jvm.State) : (allAtoms ts).before a st = ts.all (fun c => c.before a st) := by
  induction ts with
  | nil => rfl
  | cons c t ih =>
    show (Jvm.Cond.and c (allAtoms t)).before a st = _
    rw [Jvm.Cond.before_and, ih, List.all_cons]
def words1 : List Jvm.Cond := Jvm.Cond.code x code maxLocals ret :: tables_1
/-- a 'code' word, met by the world's own term for the bytes: nothing is compared byte by byte -/
theorem code_word {y : MethodName} {bytes : ByteArray} {mx : Nat} {rt : Option FieldType} {a : Array Value} {s : State} {m : MethodId} {meth : Method} {c : Code} (h1 : s.methodNamed? y = some m) (h2 : s.vm.method? m = some meth) (h3 : meth.code = some c) (h4 : c.code = bytes)
    (h5 : (c.maxLocals == mx && c.exceptionTable.isEmpty && decide (c.maxStack ≤ mostOperands) && decide (meth.sig.returnType = rt) && !meth.locks && decide (parseMethodDescriptor y.desc = some meth.sig)) = true) : (Jvm.Cond.code y bytes mx rt).before a s = true := by
  simp only [Bool.and_eq_true, beq_iff_eq, Bool.not_eq_true', decide_eq_true_eq] at h5
  obtain ⟨⟨⟨⟨⟨g1, g2⟩, g3⟩, g4⟩, g5⟩, g6⟩ := h5
  simp [Cond.before, Cond.holds, Cond.value, h1, h2, h3, h4, g1, g2, g3, g4, g5, g6]
def isCode : Jvm.Cond → Bool
  | .code _ _ _ _ => true
  | _ => false
theorem all_split {L : List Jvm.Cond} {P : Jvm.Cond → Bool} (h1 : L.all (fun c => isCode c || P c) = true) (h2 : ∀ c ∈ L.filter isCode, P c = true) : L.all P = true := by
  refine List.all_eq_true.mpr fun c hc => ?_
  have h := List.all_eq_true.mp h1 c hc
  rcases Bool.eq_false_or_eq_true (isCode c) with hi | hi
  · exact h2 c (List.mem_filter.mpr ⟨hc, hi⟩)
  · simpa [hi] using h
set_option maxRecDepth 65536 in
theorem w_c0 : (Jvm.Cond.code x code maxLocals ret).before args0 about1 = true := code_word (m := ⟨1, 3⟩) (meth := k1m3) (c := k1c3) (by decide +kernel) rfl rfl rfl (by decide +kernel)
set_option maxRecDepth 65536 in
theorem w_c1 : (Jvm.Cond.code ({ cls := "com/example/tweak_tags/tweaktags/NameKeyPointPinLaw", name := "at", desc := "(II)B" } : Jvm.MethodName) method_3_code (2 : Nat) (Option.some Jvm.ClassFile.FieldType.byte)).before args0 about1 = true := code_word (m := ⟨1, 2⟩) (meth := k1m2) (c := k1c2) (by decide +kernel) rfl rfl rfl (by decide +kernel)
set_option maxRecDepth 65536 in
theorem w_c2 : (Jvm.Cond.code ({ cls := "com/example/tweak_tags/tweaktags/NameKeyPointPinLaw", name := "pow31", desc := "(I)I" } : Jvm.MethodName) method_2_code (1 : Nat) (Option.some Jvm.ClassFile.FieldType.int)).before args0 about1 = true := code_word (m := ⟨1, 1⟩) (meth := k1m1) (c := k1c1) (by decide +kernel) rfl rfl rfl (by decide +kernel)
set_option maxRecDepth 65536 in
theorem w_c3 : (Jvm.Cond.code ({ cls := "com/example/tweak_tags/tweaktags/NameKey", name := "<init>", desc := "(I[BII)V" } : Jvm.MethodName) prog_78_method_2_code (5 : Nat) (Option.none : Option Jvm.ClassFile.FieldType)).before args0 about1 = true := code_word (m := ⟨3, 1⟩) (meth := k3m1) (c := k3c1) (by decide +kernel) rfl rfl rfl (by decide +kernel)
set_option maxRecDepth 65536 in
theorem w_c4 : (Jvm.Cond.code ({ cls := "java/lang/Object", name := "<init>", desc := "()V" } : Jvm.MethodName) object_method_1_code (1 : Nat) (Option.none : Option Jvm.ClassFile.FieldType)).before args0 about1 = true := code_word (m := ⟨0, 0⟩) (meth := k0m0) (c := k0c0) (by decide +kernel) rfl rfl rfl (by decide +kernel)
set_option maxRecDepth 65536 in
theorem w_c5 : (Jvm.Cond.code ({ cls := "com/example/tweak_tags/tweaktags/NameKey", name := "point", desc := "(I[BII)Lcom/example/tweak_tags/tweaktags/NameKey;" } : Jvm.MethodName) prog_78_method_3_code (7 : Nat) (Option.some (Jvm.ClassFile.FieldType.object "com/example/tweak_tags/tweaktags/NameKey"))).before args0 about1 = true := code_word (m := ⟨3, 2⟩) (meth := k3m2) (c := k3c2) (by decide +kernel) rfl rfl rfl (by decide +kernel)
set_option maxRecDepth 65536 in
theorem w_c6 : (Jvm.Cond.code ({ cls := "com/example/tweak_tags/tweaktags/NameKey", name := "hashCode", desc := "()I" } : Jvm.MethodName) prog_78_method_5_code (1 : Nat) (Option.some Jvm.ClassFile.FieldType.int)).before args0 about1 = true := code_word (m := ⟨3, 4⟩) (meth := k3m4) (c := k3c4) (by decide +kernel) rfl rfl rfl (by decide +kernel)
set_option maxRecDepth 65536 in
theorem w_c7 : (Jvm.Cond.code ({ cls := "com/example/tweak_tags/tweaktags/NameKey", name := "equals", desc := "(Ljava/lang/Object;)Z" } : Jvm.MethodName) prog_78_method_4_code (3 : Nat) (Option.some Jvm.ClassFile.FieldType.boolean)).before args0 about1 = true := code_word (m := ⟨3, 3⟩) (meth := k3m3) (c := k3c3) (by decide +kernel) rfl rfl rfl (by decide +kernel)
set_option maxRecDepth 65536 in
theorem w_c8 : (Jvm.Cond.code ({ cls := "java/util/Arrays", name := "equals", desc := "([BII[BII)Z" } : Jvm.MethodName) jdk_65_method_90_code (8 : Nat) (Option.some Jvm.ClassFile.FieldType.boolean)).before args0 about1 = true := code_word (m := ⟨4, 2⟩) (meth := k4m2) (c := k4c2) (by decide +kernel) rfl rfl rfl (by decide +kernel)
set_option maxRecDepth 65536 in
theorem w_c9 : (Jvm.Cond.code ({ cls := "java/util/Arrays", name := "rangeCheck", desc := "(III)V" } : Jvm.MethodName) jdk_65_method_30_code (3 : Nat) (Option.none : Option Jvm.ClassFile.FieldType)).before args0 about1 = true := code_word (m := ⟨4, 1⟩) (meth := k4m1) (c := k4c1) (by decide +kernel) rfl rfl rfl (by decide +kernel)
set_option maxRecDepth 65536 in
theorem w_c10 : (Jvm.Cond.code ({ cls := "jdk/internal/util/ArraysSupport", name := "mismatch", desc := "([BI[BII)I" } : Jvm.MethodName) jdk_48_method_14_code (8 : Nat) (Option.some Jvm.ClassFile.FieldType.int)).before args0 about1 = true := code_word (m := ⟨5, 1⟩) (meth := k5m1) (c := k5c1) (by decide +kernel) rfl rfl rfl (by decide +kernel)
set_option maxRecDepth 65536 in
theorem w_c11 : (Jvm.Cond.code ({ cls := "com/example/tweak_tags/tweaktags/NameKey", name := "compareTo", desc := "(Lcom/example/tweak_tags/tweaktags/NameKey;)I" } : Jvm.MethodName) prog_78_method_6_code (3 : Nat) (Option.some Jvm.ClassFile.FieldType.int)).before args0 about1 = true := code_word (m := ⟨3, 5⟩) (meth := k3m5) (c := k3c5) (by decide +kernel) rfl rfl rfl (by decide +kernel)
set_option maxRecDepth 65536 in
theorem w_c12 : (Jvm.Cond.code ({ cls := "java/lang/Integer", name := "compare", desc := "(II)I" } : Jvm.MethodName) jdk_33_method_40_code (2 : Nat) (Option.some Jvm.ClassFile.FieldType.int)).before args0 about1 = true := code_word (m := ⟨10, 0⟩) (meth := k10m0) (c := k10c0) (by decide +kernel) rfl rfl rfl (by decide +kernel)
set_option maxRecDepth 65536 in
theorem w_c13 : (Jvm.Cond.code ({ cls := "java/util/Arrays", name := "compareUnsigned", desc := "([BII[BII)I" } : Jvm.MethodName) jdk_65_method_202_code (9 : Nat) (Option.some Jvm.ClassFile.FieldType.int)).before args0 about1 = true := code_word (m := ⟨4, 3⟩) (meth := k4m3) (c := k4c3) (by decide +kernel) rfl rfl rfl (by decide +kernel)
set_option maxRecDepth 65536 in
theorem w_c14 : (Jvm.Cond.code ({ cls := "java/lang/Math", name := "min", desc := "(II)I" } : Jvm.MethodName) jdk_29_method_69_code (2 : Nat) (Option.some Jvm.ClassFile.FieldType.int)).before args0 about1 = true := code_word (m := ⟨11, 1⟩) (meth := k11m1) (c := k11c1) (by decide +kernel) rfl rfl rfl (by decide +kernel)
def codes1 : List Jvm.Cond := [Jvm.Cond.code x code maxLocals ret, Jvm.Cond.code ({ cls := "com/example/tweak_tags/tweaktags/NameKeyPointPinLaw", name := "at", desc := "(II)B" } : Jvm.MethodName) method_3_code (2 : Nat) (Option.some Jvm.ClassFile.FieldType.byte), Jvm.Cond.code ({ cls := "com/example/tweak_tags/tweaktags/NameKeyPointPinLaw", name := "pow31", desc := "(I)I" } : Jvm.MethodName) method_2_code (1 : Nat) (Option.some Jvm.ClassFile.FieldType.int), Jvm.Cond.code ({ cls := "com/example/tweak_tags/tweaktags/NameKey", name := "<init>", desc := "(I[BII)V" } : Jvm.MethodName) prog_78_method_2_code (5 : Nat) (Option.none : Option Jvm.ClassFile.FieldType), Jvm.Cond.code ({ cls := "java/lang/Object", name := "<init>", desc := "()V" } : Jvm.MethodName) object_method_1_code (1 : Nat) (Option.none : Option Jvm.ClassFile.FieldType), Jvm.Cond.code ({ cls := "com/example/tweak_tags/tweaktags/NameKey", name := "point", desc := "(I[BII)Lcom/example/tweak_tags/tweaktags/NameKey;" } : Jvm.MethodName) prog_78_method_3_code (7 : Nat) (Option.some (Jvm.ClassFile.FieldType.object "com/example/tweak_tags/tweaktags/NameKey")), Jvm.Cond.code ({ cls := "com/example/tweak_tags/tweaktags/NameKey", name := "hashCode", desc := "()I" } : Jvm.MethodName) prog_78_method_5_code (1 : Nat) (Option.some Jvm.ClassFile.FieldType.int), Jvm.Cond.code ({ cls := "com/example/tweak_tags/tweaktags/NameKey", name := "equals", desc := "(Ljava/lang/Object;)Z" } : Jvm.MethodName) prog_78_method_4_code (3 : Nat) (Option.some Jvm.ClassFile.FieldType.boolean), Jvm.Cond.code ({ cls := "java/util/Arrays", name := "equals", desc := "([BII[BII)Z" } : Jvm.MethodName) jdk_65_method_90_code (8 : Nat) (Option.some Jvm.ClassFile.FieldType.boolean), Jvm.Cond.code ({ cls := "java/util/Arrays", name := "rangeCheck", desc := "(III)V" } : Jvm.MethodName) jdk_65_method_30_code (3 : Nat) (Option.none : Option Jvm.ClassFile.FieldType), Jvm.Cond.code ({ cls := "jdk/internal/util/ArraysSupport", name := "mismatch", desc := "([BI[BII)I" } : Jvm.MethodName) jdk_48_method_14_code (8 : Nat) (Option.some Jvm.ClassFile.FieldType.int), Jvm.Cond.code ({ cls := "com/example/tweak_tags/tweaktags/NameKey", name := "compareTo", desc := "(Lcom/example/tweak_tags/tweaktags/NameKey;)I" } : Jvm.MethodName) prog_78_method_6_code (3 : Nat) (Option.some Jvm.ClassFile.FieldType.int), Jvm.Cond.code ({ cls := "java/lang/Integer", name := "compare", desc := "(II)I" } : Jvm.MethodName) jdk_33_method_40_code (2 : Nat) (Option.some Jvm.ClassFile.FieldType.int), Jvm.Cond.code ({ cls := "java/util/Arrays", name := "compareUnsigned", desc := "([BII[BII)I" } : Jvm.MethodName) jdk_65_method_202_code (9 : Nat) (Option.some Jvm.ClassFile.FieldType.int), Jvm.Cond.code ({ cls := "java/lang/Math", name := "min", desc := "(II)I" } : Jvm.MethodName) jdk_29_method_69_code (2 : Nat) (Option.some Jvm.ClassFile.FieldType.int)]
set_option maxRecDepth 65536 in
theorem codes_eq : words1.filter isCode = codes1 := rfl
theorem w_codes : ∀ c ∈ words1.filter isCode, c.before args0 about1 = true := by
  rw [codes_eq]
  intro c hc
  simp only [codes1, List.mem_cons, List.not_mem_nil, or_false] at hc
  rcases hc with rfl | rfl | rfl | rfl | rfl | rfl | rfl | rfl | rfl | rfl | rfl | rfl | rfl | rfl | rfl
  · exact w_c0
  · exact w_c1
  · exact w_c2
  · exact w_c3
  · exact w_c4
  · exact w_c5
  · exact w_c6
  · exact w_c7
  · exact w_c8
  · exact w_c9
  · exact w_c10
  · exact w_c11
  · exact w_c12
  · exact w_c13
  · exact w_c14
set_option maxRecDepth 65536 in
theorem w_t1 : (words1.take 24).all (fun c => isCode c || c.before args0 about1) = true := by decide +kernel
set_option maxRecDepth 65536 in
theorem w_t2 : ((words1.drop 24).take 24).all (fun c => isCode c || c.before args0 about1) = true := by decide +kernel
set_option maxRecDepth 65536 in
theorem w_t3 : (((words1.drop 24).drop 24).take 24).all (fun c => isCode c || c.before args0 about1) = true := by decide +kernel
set_option maxRecDepth 65536 in
theorem w_t4 : (((words1.drop 24).drop 24).drop 24).all (fun c => isCode c || c.before args0 about1) = true := by decide +kernel
theorem w_tables : (allAtoms (Jvm.Cond.code x code maxLocals ret :: tables_1)).before args0 about1 = true := by
  rw [allAtoms_all]
  show words1.all (fun c => c.before args0 about1) = true
  refine all_split ?_ w_codes
  rw [← List.take_append_drop 24 words1, List.all_append, w_t1, ← List.take_append_drop 24 (words1.drop 24), List.all_append, w_t2, ← List.take_append_drop 24 ((words1.drop 24).drop 24), List.all_append, w_t3, w_t4]
  rfl
set_option maxRecDepth 65536 in
theorem w_case : (Jvm.Cond.and given_1 narrow_1).before args0 about1 = true := by decide +kernel
theorem w_applies : (headSpec (Jvm.Cond.code x code maxLocals ret :: tables_1) room_1).applies x e0.platform about1 = true :=
  (Spec.applies_iff w_frames).mpr ⟨w_running, w_runnable, w_alone, w_named, w_hears, w_ripe, w_room, w_tables⟩
theorem atStart : AtStart classFile x code maxLocals ret World_1 tables_1 room_1 Calls_1 rest_1 Pre_1 launch0 p0 e0 about1 theMethod args0 below0 :=
  ⟨lists_1, trivial, launch0.admits_env _ _ _, launch0.least_env, fairChoices_fair.cas, fairChoices_fair.clock, w_frames, w_args, w_heap, w_applies, trivial, trivial, w_case⟩
end start1
theorem witness_1 : WitnessClaimed_1 := ⟨start1.p0, start1.e0, start1.about1, start1.theMethod, start1.args0, start1.below0, start1.atStart⟩
end Jvm.Pilot.@@N@@
