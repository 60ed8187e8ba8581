import JvmDerived
import JvmDerived.Pilot.@@N@@Statement
import JvmDerived.Pilot.@@N@@Code
set_option linter.unusedVariables false
set_option linter.unusedSimpArgs false
namespace Jvm.OwnKit
open Sem ClassFile Op Lib Jvm.Stand Jvm.Free Jvm.LawKit Jvm.RoadKit
theorem irem_mod (x y : Int32) : x - x / y * y = x % y := by
  have hm : (x % y).toInt = x.toInt - x.toInt.tdiv y.toInt * y.toInt := by
    rw [Int32.toInt_mod, Int.tmod_def, Int.mul_comm]
  have hb := Int32.toInt_lt (x % y)
  have hl := Int32.le_toInt (x % y)
  have e : (x - x / y * y).toInt = (x % y).toInt.bmod (2 ^ 32) := by
    rw [hm, Int32.toInt_sub, Int32.toInt_mul, Int32.toInt_div, Int.sub_bmod_bmod, Int.sub_eq_add_neg, Int.sub_eq_add_neg]
    rw [← Int.add_bmod_bmod, ← Int.add_bmod_bmod (y := -(x.toInt.tdiv y.toInt * y.toInt))]
    congr 2
    rw [← Int.neg_mul, ← Int.neg_mul]
    rw [← Int.bmod_mul_bmod, Int.bmod_neg_bmod, Int.bmod_mul_bmod]
  apply Int32.toInt_inj.mp
  rw [e]
  exact Int.bmod_eq_of_le_mul_two (by omega) (by omega)
/-- what a body's end says -/
def Done (s : State) (below : List Frame) (Q : Option Value → Heap → List Loc → Prop) (C S : Nat) (t : State) (o : Outcome) : Prop :=
  t.status = .running ∧ Ended t below o ∧ ∃ v L, o = .returned v ∧ Q v t.heap L ∧ FrameEnd s o t L C S
/-- from here the run ends as asked -/
def Go (tb : Tables) (e : Env) (below : List Frame) (s : State) (Q : Option Value → Heap → List Loc → Prop) (C S : Nat) (A : State) : Prop :=
  ∃ t o, Steps tb e below A t ∧ Done s below Q C S t o
theorem Go.of {tb : Tables} {e : Env} {below : List Frame} {s : State} {Q : Option Value → Heap → List Loc → Prop} {C S : Nat} {A B : State}
    (g : ∀ t, Steps tb e below B t → Steps tb e below A t) (h : Go tb e below s Q C S B) : Go tb e below s Q C S A := by
  obtain ⟨t, o, h1, h2⟩ := h
  exact ⟨t, o, g t h1, h2⟩
theorem Go.join {tb : Tables} {e : Env} {below : List Frame} {s : State} {Q : Option Value → Heap → List Loc → Prop} {C S : Nat} {A : State} {α : Type} {P : α → Prop} {F : α → State}
    (h1 : ∀ x, P x → Go tb e below s Q C S (F x)) (h2 : (∀ x, P x → Go tb e below s Q C S (F x)) → Go tb e below s Q C S A) : Go tb e below s Q C S A := h2 h1
theorem Go.loop {tb : Tables} {e : Env} {below : List Frame} {s : State} {Q : Option Value → Heap → List Loc → Prop} {C S : Nat} {α : Type} {P : Nat → α → Prop} {F : α → State}
    (h : ∀ k x, P k x → (∀ j y, j < k → P j y → Go tb e below s Q C S (F y)) → Go tb e below s Q C S (F x)) : ∀ k x, P k x → Go tb e below s Q C S (F x) := by
  intro k
  induction k using Nat.strongRecOn with
  | ind k ih => exact fun x hp => h k x hp fun j y hj hy => ih j hj y hy
section Ret
variable {p : Program} {l : Launch} {e : Env} {R : Room} {s : State} {m : MethodId} {args : Array Value} {below : List Frame} {meth : Method} {c : Code} {T : State} {locs : List Loc} {cells slots : Nat} {Q : Option Value → Heap → List Loc → Prop} {C S : Nat}
theorem Go.retV (X : Stand p l e R s m args below meth c T locs cells slots) (hx : p.tables.exec = Jvm.exec) (hlk : meth.locks = false) {pc : Nat} {Ls : Array Slot} {st : List Value} (hret : meth.sig.returnType = none)
    (hd : decode c.code pc = .ok (.return_, 1)) (hs : st = []) (hc : cells ≤ C) (hn : slots ≤ S) (hq : Q none T.heap locs) : Go p.tables e below s Q C S (T.setTop (mkF m pc Ls st)) := by
  subst hs
  obtain ⟨fs, hr, hrun, hended, hW, hsame⟩ := X.leave (v := none) (fun _ => rfl)
  exact ⟨_, _, X.returnOut hx hret hd hr, hrun, hended, _, _, rfl, hq, ⟨_, rfl⟩, hW, hsame.mono hc hn⟩
theorem Go.retW (X : Stand p l e R s m args below meth c T locs cells slots) (hx : p.tables.exec = Jvm.exec) (hlk : meth.locks = false) {pc : Nat} {Ls : Array Slot} {w : Value} {t : FieldType} {i : Instr} {rest : List Value}
    (hret : meth.sig.returnType = some t) (hn : narrow t w = w)
    (hi : (i = .ireturn ∧ (t = .int ∨ t = .boolean ∨ t = .byte ∨ t = .char ∨ t = .short) ∧ ∃ z, w = .int z) ∨ (i = .lreturn ∧ t = .long ∧ ∃ z, w = .long z) ∨ (i = .dreturn ∧ t = .double ∧ ∃ z, w = .double z) ∨ (i = .freturn ∧ t = .float ∧ ∃ z, w = .float z) ∨ (i = .areturn ∧ t.isReference = true ∧ w.isRef = true))
    (hd : decode c.code pc = .ok (i, 1)) (hc : cells ≤ C) (hsl : slots ≤ S) (hq : Q (some w) T.heap locs) : Go p.tables e below s Q C S (T.setTop (mkF m pc Ls (w :: rest))) := by
  obtain ⟨fs, hr, hrun, hended, hW, hsame⟩ := X.leave (v := some w) (fun h => by rw [hret] at h; cases h)
  exact ⟨_, _, retOut X hx hret hn hi hd hr, hrun, hended, _, _, rfl, hq, ⟨_, rfl⟩, hW, hsame.mono hc hsl⟩
theorem Go.retI (X : Stand p l e R s m args below meth c T locs cells slots) (hx : p.tables.exec = Jvm.exec) (hlk : meth.locks = false) {pc : Nat} {Ls : Array Slot} {z : Int32} {rest : List Value}
    (hret : meth.sig.returnType = some .int) (hd : decode c.code pc = .ok (.ireturn, 1)) (hc : cells ≤ C) (hsl : slots ≤ S) (hq : Q (some (.int z)) T.heap locs) : Go p.tables e below s Q C S (T.setTop (mkF m pc Ls (.int z :: rest))) :=
  Go.retW X hx hlk hret rfl (Or.inl ⟨rfl, Or.inl rfl, _, rfl⟩) hd hc hsl hq
theorem Go.retZ (X : Stand p l e R s m args below meth c T locs cells slots) (hx : p.tables.exec = Jvm.exec) (hlk : meth.locks = false) {pc : Nat} {Ls : Array Slot} {z : Int32} {rest : List Value} {t : FieldType}
    (hret : meth.sig.returnType = some t) (ht : t = .boolean ∨ t = .byte ∨ t = .char ∨ t = .short) (hd : decode c.code pc = .ok (.ireturn, 1)) (hc : cells ≤ C) (hsl : slots ≤ S) (hq : Q (some (.int (nar t z))) T.heap locs) : Go p.tables e below s Q C S (T.setTop (mkF m pc Ls (.int z :: rest))) := by
  obtain ⟨fs, hr, hrun, hended, hW, hsame⟩ := X.leave (v := some (.int (nar t z))) (fun h => by rw [hret] at h; cases h)
  exact ⟨_, _, retN X hx hret ht hd hr, hrun, hended, _, _, rfl, hq, ⟨_, rfl⟩, hW, hsame.mono hc hsl⟩
theorem Go.retL (X : Stand p l e R s m args below meth c T locs cells slots) (hx : p.tables.exec = Jvm.exec) (hlk : meth.locks = false) {pc : Nat} {Ls : Array Slot} {z : Int64} {rest : List Value}
    (hret : meth.sig.returnType = some .long) (hd : decode c.code pc = .ok (.lreturn, 1)) (hc : cells ≤ C) (hsl : slots ≤ S) (hq : Q (some (.long z)) T.heap locs) : Go p.tables e below s Q C S (T.setTop (mkF m pc Ls (.long z :: rest))) :=
  Go.retW X hx hlk hret rfl (Or.inr (Or.inl ⟨rfl, rfl, _, rfl⟩)) hd hc hsl hq
theorem Go.retA (X : Stand p l e R s m args below meth c T locs cells slots) (hx : p.tables.exec = Jvm.exec) (hlk : meth.locks = false) {pc : Nat} {Ls : Array Slot} {w : Value} {rest : List Value} {t : FieldType}
    (hret : meth.sig.returnType = some t) (ht : t.isReference = true) (hw : w.isRef = true) (hd : decode c.code pc = .ok (.areturn, 1)) (hc : cells ≤ C) (hsl : slots ≤ S) (hq : Q (some w) T.heap locs) : Go p.tables e below s Q C S (T.setTop (mkF m pc Ls (w :: rest))) :=
  Go.retW X hx hlk hret (by cases t <;> first | rfl | (simp [FieldType.isReference] at ht)) (Or.inr (Or.inr (Or.inr (Or.inr ⟨rfl, ht, hw⟩)))) hd hc hsl hq
end Ret
/-- the contract of a body, by its walk -/
theorem meet {l : Launch} {Z : State} {y : MethodName} {bytes : ByteArray} {maxL : Nat} {ret : Option FieldType} {ws : List Cond} {rm : Room} {as : Array Value} {Ls : Array Slot} {h0 : Heap} {Q : Option Value → Heap → List Loc → Prop}
    (hpl : plainFor y = true) (ef : ∀ m, entryFrame m as maxL = mkF m 0 Ls [])
    (body : ∀ (p : Program) (e : Env) (s : State) (m : MethodId) (below : List Frame) (meth : Method) (c : Code) (T : State), p.tables.exec = Jvm.exec → c.code = bytes → c.maxLocals = maxL → Z.Warmed39 s.vm → s.vm.findClass y.cls = some m.cls → meth.name = y.name →
      meth.sig.returnType = ret → meth.locks = false → Stand p l e rm s m as below meth c T [] 0 0 → T.heap = h0 → Go p.tables e below s Q rm.cells rm.slots (T.setTop (mkF m 0 Ls []))) :
    MetFree l y (head1 (Cond.code y bytes maxL ret :: ws) rm) (fun a U => a = as ∧ Z.Warmed39 U.vm ∧ U.heap = h0) (fun _ _ _ _ _ => True) (fun _ U o U' => ∃ v L, o = .returned v ∧ Q v U'.heap L ∧ FrameEnd U o U' L rm.cells rm.slots) := by
  refine MetFree.of_bodySF hpl hisR ?_
  intro p e s m args below meth c s₁ Bd hml0 hP hK
  obtain ⟨rfl, hZ, hh⟩ := hP
  obtain ⟨t, o, h1, h2, h3, h4⟩ := body p e s m below meth c s₁ Bd.exec Bd.bytes hml0 hZ (findClass_of_methodNamed Bd.named) (name_of_methodNamed Bd.named Bd.method).1 Bd.returns Bd.notSynchronized (Stand.of_body Bd) (by rw [← hh, Bd.state]; rfl)
  exact ⟨t, o, castTop (ef m) h1, h2, h3, h4⟩
/-- what a callee's contract says -/
abbrev Con (l : Launch) (Z : State) (y : MethodName) (bytes : ByteArray) (maxL : Nat) (ret : Option FieldType) (rm : Room) (as : Array Value) (h0 : Heap) (Q : Option Value → Heap → List Loc → Prop) : Prop :=
  MetFree l y (head1 [Cond.code y bytes maxL ret] rm) (fun a U => a = as ∧ Z.Warmed39 U.vm ∧ U.heap = h0) (fun _ _ _ _ _ => True) (fun _ U o U' => ∃ v L, o = .returned v ∧ Q v U'.heap L ∧ FrameEnd U o U' L rm.cells rm.slots)
section Call
variable {p : Program} {l : Launch} {e : Env} {R : Room} {s : State} {m : MethodId} {args : Array Value} {below : List Frame} {meth : Method} {c : Code} {T : State} {locs : List Loc} {cells slots : Nat} {Q : Option Value → Heap → List Loc → Prop} {C S : Nat} {Z : State} {a0 : Array Value} {h : Heap}
theorem Go.callS (X : Stand p l e R s m args below meth c T locs cells slots) (hx : p.tables.exec = Jvm.exec) (hZ : Z.Warmed39 s.vm) {own : String} {index : Nat} {y : MethodName} {bytes : ByteArray} {maxL : Nat} {ret : Option FieldType} {rm : Room} {Q' : Option Value → Heap → List Loc → Prop}
    (hown : s.vm.findClass own = some m.cls) (w1 : (Cond.methodLink own index y).before a0 Z = true) (w2 : (Cond.static y).before a0 Z = true) (w3 : (Cond.initialized y.cls).before a0 Z = true)
    (w4 : (Cond.code y bytes maxL ret).before a0 Z = true) (hy : y.cls ≠ "java/lang/invoke/MethodHandle" ∧ y.cls ≠ "java/lang/invoke/VarHandle")
    (eT : T.heap = h) {pc : Nat} {Ls : Array Slot} {argsL rest st : List Value} {W : Nat} {ps : List FieldType} (hM : Con l Z y bytes maxL ret rm argsL.toArray h Q') (hd : decode c.code pc = .ok (.invokestatic index, 3))
    (hsz : Ls.size = c.maxLocals) (hst : st = argsL.reverse ++ rest) (hpd : parseMethodDescriptor y.desc = some ⟨ps, ret⟩) (hlen : argsL.length = ps.length) (hW : (rest.map fun v => v.category).sum = W)
    (hf : rm.frames + 1 ≤ R.frames) (hl : W + (maxL + 11) + rm.locals ≤ R.locals) (hc : cells + rm.cells ≤ R.cells) (hn : slots + rm.slots ≤ R.slots)
    (k : ∀ (v : Option Value) (T' : State) (L' : List Loc), Stand p l e R s m args below meth c T' (locs ++ L') (cells + rm.cells) (slots + rm.slots) → Q' v T'.heap L' → Go p.tables e below s Q C S (T'.setTop (mkF m (pc + 3) Ls (v.toList ++ rest)))) :
    Go p.tables e below s Q C S (T.setTop (mkF m pc Ls st)) := by
  obtain ⟨v, _, ⟨T', L', kc, kn⟩, -, X', ⟨Lc, hQ, l3, y3, z3⟩, st⟩ := Jvm.LawKit.callS X hx hown (mvT hZ w1) (mvT hZ w2) (mvT hZ w3) (mvT hZ w4) hy (backOf (W := W) hM hZ w4 w3 hf hl) (g := mkF m pc Ls st) rfl hsz (argsL := argsL) (rest := rest) (lenOf hpd hlen) hst (by show 2 * 0 + _ ≤ _; rw [hW]; omega) hd (fun _ _ => ⟨rfl, eT, hc, hn⟩)
  dsimp only [Pt.U, Pt.locs, Pt.cells, Pt.slots] at X' l3 y3 z3 st hQ
  subst l3 y3 z3
  exact Go.of st (k v T' Lc X' hQ)
theorem Go.callI (X : Stand p l e R s m args below meth c T locs cells slots) (hx : p.tables.exec = Jvm.exec) (hZ : Z.Warmed39 s.vm) {own : String} {index : Nat} {y : MethodName} {bytes : ByteArray} {maxL : Nat} {rm : Room} {Q' : Option Value → Heap → List Loc → Prop}
    (hown : s.vm.findClass own = some m.cls) (hy1 : y.name = "<init>") (w1 : (Cond.methodLink own index y).before a0 Z = true) (w2 : (Cond.instanceMethod y).before a0 Z = true) (w3 : (Cond.initialized y.cls).before a0 Z = true)
    (w4 : (Cond.code y bytes maxL none).before a0 Z = true) (hy : y.cls ≠ "java/lang/invoke/MethodHandle" ∧ y.cls ≠ "java/lang/invoke/VarHandle")
    (eT : T.heap = h) {pc : Nat} {Ls : Array Slot} {a : Addr} {argsL rest st : List Value} {W : Nat} {ps : List FieldType} (hM : Con l Z y bytes maxL none rm (.ref a :: argsL).toArray h Q') (hd : decode c.code pc = .ok (.invokespecial index, 3))
    (hsz : Ls.size = c.maxLocals) (hst : st = argsL.reverse ++ .ref a :: rest) (hpd : parseMethodDescriptor y.desc = some ⟨ps, none⟩) (hlen : argsL.length = ps.length) (hW : (rest.map fun v => v.category).sum = W)
    (hf : rm.frames + 1 ≤ R.frames) (hl : W + (maxL + 11) + rm.locals ≤ R.locals) (hc : cells + rm.cells ≤ R.cells) (hn : slots + rm.slots ≤ R.slots)
    (k : ∀ (v : Option Value) (T' : State) (L' : List Loc), Stand p l e R s m args below meth c T' (locs ++ L') (cells + rm.cells) (slots + rm.slots) → Q' v T'.heap L' → Go p.tables e below s Q C S (T'.setTop (mkF m (pc + 3) Ls (v.toList ++ rest)))) :
    Go p.tables e below s Q C S (T.setTop (mkF m pc Ls st)) := by
  obtain ⟨v, _, ⟨T', L', kc, kn⟩, -, X', ⟨Lc, hQ, l3, y3, z3⟩, st⟩ := X.specialBack hx hy1 hown (mvT hZ w1) (mvT hZ w2) (mvT hZ w4) hy (backOf (W := W) hM hZ w4 w3 hf hl) (g := mkF m pc Ls st) rfl hsz (Steps.refl _) (a := a) (argsL := argsL) (rest := rest) (lenOf hpd hlen) hst (by show 2 * 0 + _ ≤ _; rw [hW]; omega) hd (fun _ _ => ⟨rfl, eT, hc, hn⟩)
  dsimp only [Pt.U, Pt.locs, Pt.cells, Pt.slots] at X' l3 y3 z3 st hQ
  subst l3 y3 z3
  exact Go.of (fun _ q => st.trans q) (k v T' Lc X' hQ)
theorem Go.callV (X : Stand p l e R s m args below meth c T locs cells slots) (hx : p.tables.exec = Jvm.exec) (hZ : Z.Warmed39 s.vm) {own K : String} {index : Nat} {y z : MethodName} {bytes : ByteArray} {maxL : Nat} {ret : Option FieldType} {rm : Room} {Q' : Option Value → Heap → List Loc → Prop}
    (hown : s.vm.findClass own = some m.cls) (w1 : (Cond.methodLink own index y).before a0 Z = true) (w2 : (Cond.declares y).before a0 Z = true) (nf : NotFace s y) (w5 : (Cond.selects K y z).before a0 Z = true) (w6 : (Cond.instanceMethod z).before a0 Z = true) (w3 : (Cond.initialized z.cls).before a0 Z = true)
    (w4 : (Cond.code z bytes maxL ret).before a0 Z = true) (hy : y.cls ≠ "java/lang/invoke/MethodHandle" ∧ y.cls ≠ "java/lang/invoke/VarHandle")
    (eT : T.heap = h) {pc : Nat} {Ls : Array Slot} {a : Addr} {argsL rest st : List Value} {W : Nat} {ps : List FieldType} {rt : Option FieldType} (E : Exa Z h a K) (hM : Con l Z z bytes maxL ret rm (.ref a :: argsL).toArray h Q') (hd : decode c.code pc = .ok (.invokevirtual index, 3))
    (hsz : Ls.size = c.maxLocals) (hst : st = argsL.reverse ++ .ref a :: rest) (hpd : parseMethodDescriptor y.desc = some ⟨ps, rt⟩) (hlen : argsL.length = ps.length) (hW : (rest.map fun v => v.category).sum = W)
    (hf : rm.frames + 1 ≤ R.frames) (hl : W + (maxL + 11) + rm.locals ≤ R.locals) (hc : cells + rm.cells ≤ R.cells) (hn : slots + rm.slots ≤ R.slots)
    (k : ∀ (v : Option Value) (T' : State) (L' : List Loc), Stand p l e R s m args below meth c T' (locs ++ L') (cells + rm.cells) (slots + rm.slots) → Q' v T'.heap L' → Go p.tables e below s Q C S (T'.setTop (mkF m (pc + 3) Ls (v.toList ++ rest)))) :
    Go p.tables e below s Q C S (T.setTop (mkF m pc Ls st)) := by
  obtain ⟨cq, kq, qa, qb, qc⟩ := isOf hZ eT E
  obtain ⟨v, _, ⟨T', L', kc, kn⟩, -, X', ⟨Lc, hQ, l3, y3, z3⟩, st⟩ := X.virtualBack hx (y := y) (z := z) hown (mvT hZ w1) (mvT hZ w2) nf (mvT hZ w5) (mvT hZ w6) hy (backOf (W := W) hM hZ w4 w3 hf hl) qa qc (g := mkF m pc Ls st) rfl hsz (Steps.refl _) (argsL := argsL) (rest := rest) (lenOf hpd hlen) hst (by show 2 * 0 + _ ≤ _; rw [hW]; omega) hd (fun _ _ => ⟨rfl, eT, hc, hn⟩)
  dsimp only [Pt.U, Pt.locs, Pt.cells, Pt.slots] at X' l3 y3 z3 st hQ
  subst l3 y3 z3
  exact Go.of (fun _ q => st.trans q) (k v T' Lc X' hQ)
/-- a private method by invokevirtual -/
theorem Go.callP (X : Stand p l e R s m args below meth c T locs cells slots) (hx : p.tables.exec = Jvm.exec) (hZ : Z.Warmed39 s.vm) {own K : String} {index : Nat} {y : MethodName} {bytes : ByteArray} {maxL : Nat} {ret : Option FieldType} {rm : Room} {Q' : Option Value → Heap → List Loc → Prop}
    (hown : s.vm.findClass own = some m.cls) (w1 : (Cond.methodLink own index y).before a0 Z = true) (w6 : (Cond.instanceMethod y).before a0 Z = true) {kk : Nat} (w5 : (Cond.instantiable y.cls kk).before a0 Z = true) (w7 : (Cond.privateMethod y).before a0 Z = true) (w3 : (Cond.initialized y.cls).before a0 Z = true)
    (w4 : (Cond.code y bytes maxL ret).before a0 Z = true) (hy : y.cls ≠ "java/lang/invoke/MethodHandle" ∧ y.cls ≠ "java/lang/invoke/VarHandle")
    (eT : T.heap = h) {pc : Nat} {Ls : Array Slot} {a : Addr} {argsL rest st : List Value} {W : Nat} {ps : List FieldType} {rt : Option FieldType} (E : Exa Z h a K) (hM : Con l Z y bytes maxL ret rm (.ref a :: argsL).toArray h Q') (hd : decode c.code pc = .ok (.invokevirtual index, 3))
    (hsz : Ls.size = c.maxLocals) (hst : st = argsL.reverse ++ .ref a :: rest) (hpd : parseMethodDescriptor y.desc = some ⟨ps, rt⟩) (hlen : argsL.length = ps.length) (hW : (rest.map fun v => v.category).sum = W)
    (hf : rm.frames + 1 ≤ R.frames) (hl : W + (maxL + 11) + rm.locals ≤ R.locals) (hc : cells + rm.cells ≤ R.cells) (hn : slots + rm.slots ≤ R.slots)
    (k : ∀ (v : Option Value) (T' : State) (L' : List Loc), Stand p l e R s m args below meth c T' (locs ++ L') (cells + rm.cells) (slots + rm.slots) → Q' v T'.heap L' → Go p.tables e below s Q C S (T'.setTop (mkF m (pc + 3) Ls (v.toList ++ rest)))) :
    Go p.tables e below s Q C S (T.setTop (mkF m pc Ls st)) := by
  obtain ⟨cq, q1, q2⟩ := E.cell
  obtain ⟨c2, k2, i1, i2, -, i4, -⟩ := Cond.instantiable_spec (mvT (args := args) hZ w5)
  have hpv : s.PrivateAt y := Cond.privateMethod_at (mvP hZ w7 (args := #[]))
  have hsel : (Cond.selects y.cls y y).before args s = true := selects_self_of_private i1 i2 (by simpa using (Bool.or_eq_false_iff.mp i4).1) hpv (mvT hZ w6) hy
  obtain ⟨v, _, ⟨T', L', kc, kn⟩, -, X', ⟨Lc, hQ, l3, y3, z3⟩, st⟩ := X.privateBack hx (y := y) hown (mvT hZ w1) (mvT hZ w6) hsel hpv (mvT hZ w4) hy (backOf (W := W) hM hZ w4 w3 hf hl) (g := mkF m pc Ls st) rfl hsz (Steps.refl _) (a := a) (by rw [eT]; exact q1) q2 (argsL := argsL) (rest := rest) (lenOf hpd hlen) hst (by show 2 * 0 + _ ≤ _; rw [hW]; omega) hd (fun _ _ => ⟨rfl, eT, hc, hn⟩)
  dsimp only [Pt.U, Pt.locs, Pt.cells, Pt.slots] at X' l3 y3 z3 st hQ
  subst l3 y3 z3
  exact Go.of (fun _ q => st.trans q) (k v T' Lc X' hQ)
end Call
/-- an array of n places, place i holding f i -/
def ArF (Z : State) (h : Heap) (a : Addr) (ty : FieldType) (n : Nat) (f : Nat → Value) : Prop :=
  ∃ cl : Cell, Arr Z h a cl ty ∧ cl.slots.size = n ∧ n < 2 ^ 31 ∧ (∀ i, i < n → cl.slots[i]? = some (f i)) ∧ ∀ i, i < n → fits ty (f i) = true
def upV (f : Nat → Value) (j : Nat) (v : Value) (i : Nat) : Value := if i = j then v else f i
def upI (f : Nat → Int32) (j : Nat) (v : Int32) (i : Nat) : Int32 := if i = j then v else f i
def upJ (f : Nat → Int64) (j : Nat) (v : Int64) (i : Nat) : Int64 := if i = j then v else f i
def upD (f : Nat → UInt64) (j : Nat) (v : UInt64) (i : Nat) : UInt64 := if i = j then v else f i
section ArF
variable {Z : State} {h h' : Heap} {a b : Addr} {ty : FieldType} {n : Nat} {f : Nat → Value} {sl : Nat} {v : Value} {ws : List Addr}
theorem ArF.lt (F : ArF Z h a ty n f) : a < h.size := by obtain ⟨c, A, -⟩ := F; exact A.lt
theorem ArF.ext (F : ArF Z h a ty n f) (E : Ext h h') : ArF Z h' a ty n f := by obtain ⟨c, A, r⟩ := F; exact ⟨c, A.ext E, r⟩
theorem ArF.other (F : ArF Z h b ty n f) (W : Wr h h' a sl v) (q : b ≠ a) : ArF Z h' b ty n f := by obtain ⟨c, A, r⟩ := F; exact ⟨c, A.other W q, r⟩
theorem ArF.keep (F : ArF Z h a ty n f) (K : Keep h h' ws) (q : a ∉ ws) : ArF Z h' a ty n f := by obtain ⟨c, A, r⟩ := F; exact ⟨c, ⟨K.2.1 a c A.1 q, A.2⟩, r⟩
theorem ArF.len (F : ArF Z h a ty n f) : n < 2 ^ 31 := by obtain ⟨c, A, r1, r2, -⟩ := F; exact r2
theorem ArF.fit (F : ArF Z h a ty n f) {i : Nat} (hi : i < n) : fits ty (f i) = true := by obtain ⟨c, A, r1, r2, r3, r4⟩ := F; exact r4 i hi
theorem ArF.congr {g : Nat → Value} (F : ArF Z h a ty n f) (q : ∀ i, i < n → g i = f i) : ArF Z h a ty n g := by
  obtain ⟨c, A, r1, r2, r3, r4⟩ := F
  exact ⟨c, A, r1, r2, fun i hi => by rw [q i hi]; exact r3 i hi, fun i hi => by rw [q i hi]; exact r4 i hi⟩
theorem ArF.new {k : ClassId} {z : Int32} (A : Arr Z h a (newA k ty z) ty) (hn : ¬ z < 0) (hz : z.toNatClampNeg = n) : ArF Z h a ty n (fun _ => defaultValue ty) := by
  subst hz
  refine ⟨_, A, sz_new _ _ _, (back32 hn).2, fun i hi => ?_, fun i hi => by cases ty <;> rfl⟩
  simp [newA, hi]
theorem ArF.set {x : Nat} (F : ArF Z h a ty n f) (hv : fits ty v = true) (W : Wr h h' a x v) : ArF Z h' a ty n (upV f x v) := by
  obtain ⟨c, A, r1, r2, r3, r4⟩ := F
  refine ⟨_, A.same W, by simp [Cell.setSlot, r1], r2, fun i hi => ?_, fun i hi => ?_⟩
  · by_cases e : i = x
    · subst e; simp [upV, Cell.setSlot, r1, hi]
    · simp only [upV, e, if_false, Cell.setSlot]
      rw [Array.getElem?_setIfInBounds_ne (Ne.symm e)]; exact r3 i hi
  · by_cases e : i = x
    · simp [upV, e, hv]
    · simp only [upV, e, if_false]; exact r4 i hi
theorem ArF.arv (F : ArF Z h a ty n f) (d : Value) : ∃ k, Arv Z h a k ty n.toInt32 ((List.range n).map f) d := by
  obtain ⟨c, A, r1, r2, r3, r4⟩ := F
  have hz : (n.toInt32).toInt = n := len_toInt r2
  have hz0 : (0 : Int32).toInt = 0 := rfl
  have hg : ∀ i, i < n → ((List.range n).map f).getD i d = f i := fun i hi => by simp [List.getD, hi]
  refine ⟨c.cls, c, A, rfl, ?_, by rw [Int32.lt_iff_toInt_lt]; omega, fun i hi => ?_, fun i hi => ?_⟩
  · rw [r1, Int32.toNatClampNeg]; omega
  · rw [r1] at hi; rw [hg i hi]; exact r3 i hi
  · rw [r1] at hi; rw [hg i hi]; exact r4 i hi
theorem arF_of_arv {k : ClassId} {z : Int32} {vs : List Value} {d : Value} (F : Arv Z h a k ty z vs d) : ArF Z h a ty z.toNatClampNeg (fun i => vs.getD i d) := by
  obtain ⟨c, A, -, r2, r3, r4, r5⟩ := F
  exact ⟨c, A, r2, (back32 r3).2, fun i hi => r4 i (by rw [r2]; exact hi), fun i hi => r5 i (by rw [r2]; exact hi)⟩
/-- n places of f from sp on, laid over f' from dp on -/
def cpF (f f' : Nat → Value) (sp dp nn : Nat) (i : Nat) : Value := if dp ≤ i ∧ i < dp + nn then f (sp + (i - dp)) else f' i
def cpT {α : Type} (f f' : Nat → α) (sp dp nn : Nat) (i : Nat) : α := if dp ≤ i ∧ i < dp + nn then f (sp + (i - dp)) else f' i
theorem ArF.cpI {g g' : Nat → Int32} {x y z : Nat} (F : ArF Z h a ty n (cpF (fun i => .int (g i)) (fun i => .int (g' i)) x y z)) : ArF Z h a ty n (fun i => .int (cpT g g' x y z i)) := F.congr fun i _ => by simp only [cpF, cpT]; split <;> rfl
theorem ArF.cpJ {g g' : Nat → Int64} {x y z : Nat} (F : ArF Z h a ty n (cpF (fun i => .long (g i)) (fun i => .long (g' i)) x y z)) : ArF Z h a ty n (fun i => .long (cpT g g' x y z i)) := F.congr fun i _ => by simp only [cpF, cpT]; split <;> rfl
theorem ArF.cpD {g g' : Nat → UInt64} {x y z : Nat} (F : ArF Z h a ty n (cpF (fun i => .double (g i)) (fun i => .double (g' i)) x y z)) : ArF Z h a ty n (fun i => .double (cpT g g' x y z i)) := F.congr fun i _ => by simp only [cpF, cpT]; split <;> rfl
theorem nat_idx {j : Int32} {k : Nat} (hj : j.toInt = (k : Int)) : j.toNatClampNeg = k := by simp only [Int32.toNatClampNeg]; omega
theorem in_idx {j : Int32} {k : Nat} {c : Cell} (hj : j.toInt = (k : Int)) (hk : k < n) (e : c.slots.size = n) : ¬ (j < 0 ∨ c.slots.size ≤ j.toNatClampNeg) := by
  rw [nat_idx hj, e, Int32.lt_iff_toInt_lt]
  have : (0 : Int32).toInt = 0 := rfl
  omega
end ArF
section ArrSteps
variable {p : Program} {l : Launch} {e : Env} {R : Room} {s : State} {m : MethodId} {args : Array Value} {below : List Frame} {meth : Method} {c : Code} {T : State} {locs : List Loc} {cells slots : Nat} {Q : Option Value → Heap → List Loc → Prop} {C S : Nat} {Z : State} {a0 : Array Value} {h : Heap} {a : Addr} {n : Nat} {j : Int32} {pc : Nat} {Ls : Array Slot} {rest : List Value}
theorem Go.alen (X : Stand p l e R s m args below meth c T locs cells slots) (hx : p.tables.exec = Jvm.exec) (hZ : Z.Warmed39 s.vm) (eT : T.heap = h) {ty : FieldType} {f : Nat → Value} (F : ArF Z h a ty n f) (hd : decode c.code pc = .ok (.arraylength, 1))
    (kk : Go p.tables e below s Q C S (T.setTop (mkF m (pc + 1) Ls (.int n.toInt32 :: rest)))) : Go p.tables e below s Q C S (T.setTop (mkF m pc Ls (.ref a :: rest))) := by
  obtain ⟨cl, A, r1, r2, -⟩ := F
  subst r1
  exact Go.of (fun t q => X.arraylength hx (by rw [eT]; exact A.1) (State.isArrayOf_alike hZ.alike A.2.1) (g := mkF m pc Ls (.ref a :: rest)) rfl rfl hd t q) kk
theorem Go.iaload (X : Stand p l e R s m args below meth c T locs cells slots) (hx : p.tables.exec = Jvm.exec) (hZ : Z.Warmed39 s.vm) (eT : T.heap = h) {f : Nat → Int32} (F : ArF Z h a .int n (fun i => .int (f i))) {k : Nat} (hj : j.toInt = (k : Int)) (hk : k < n) (hd : decode c.code pc = .ok (.iaload, 1))
    (kk : Go p.tables e below s Q C S (T.setTop (mkF m (pc + 1) Ls (.int (f k) :: rest)))) : Go p.tables e below s Q C S (T.setTop (mkF m pc Ls (.int j :: .ref a :: rest))) := by
  obtain ⟨cl, A, r1, r2, r3, -⟩ := F
  exact Go.of (fun t q => X.iaload hx (j := j) (v := .int (f k)) (by rw [eT]; exact A.1) (State.isArrayOf_alike hZ.alike A.2.1) A.2.2 (in_idx hj hk r1) (by rw [nat_idx hj, r3 _ hk]) (g := mkF m pc Ls (.int j :: .ref a :: rest)) rfl rfl hd t q) kk
theorem Go.laload (X : Stand p l e R s m args below meth c T locs cells slots) (hx : p.tables.exec = Jvm.exec) (hZ : Z.Warmed39 s.vm) (eT : T.heap = h) {f : Nat → Int64} (F : ArF Z h a .long n (fun i => .long (f i))) {k : Nat} (hj : j.toInt = (k : Int)) (hk : k < n) (hd : decode c.code pc = .ok (.laload, 1))
    (kk : Go p.tables e below s Q C S (T.setTop (mkF m (pc + 1) Ls (.long (f k) :: rest)))) : Go p.tables e below s Q C S (T.setTop (mkF m pc Ls (.int j :: .ref a :: rest))) := by
  obtain ⟨cl, A, r1, r2, r3, -⟩ := F
  exact Go.of (fun t q => X.laload hx (j := j) (v := .long (f k)) (by rw [eT]; exact A.1) (State.isArrayOf_alike hZ.alike A.2.1) A.2.2 (in_idx hj hk r1) (by rw [nat_idx hj, r3 _ hk]) (g := mkF m pc Ls (.int j :: .ref a :: rest)) rfl rfl hd t q) kk
theorem Go.baload (X : Stand p l e R s m args below meth c T locs cells slots) (hx : p.tables.exec = Jvm.exec) (hZ : Z.Warmed39 s.vm) (eT : T.heap = h) {f : Nat → Int32} (F : ArF Z h a .byte n (fun i => .int (f i))) {k : Nat} (hj : j.toInt = (k : Int)) (hk : k < n) (hd : decode c.code pc = .ok (.baload, 1))
    (kk : Go p.tables e below s Q C S (T.setTop (mkF m (pc + 1) Ls (.int (f k) :: rest)))) : Go p.tables e below s Q C S (T.setTop (mkF m pc Ls (.int j :: .ref a :: rest))) := by
  obtain ⟨cl, A, r1, r2, r3, -⟩ := F
  exact Go.of (fun t q => X.baloadBytes hx (j := j) (v := .int (f k)) (by rw [eT]; exact A.1) (State.isArrayOf_alike hZ.alike A.2.1) A.2.2 (in_idx hj hk r1) (by rw [nat_idx hj, r3 _ hk]) (g := mkF m pc Ls (.int j :: .ref a :: rest)) rfl rfl hd t q) kk
theorem Go.daload (X : Stand p l e R s m args below meth c T locs cells slots) (hx : p.tables.exec = Jvm.exec) (hZ : Z.Warmed39 s.vm) (eT : T.heap = h) {f : Nat → UInt64} (F : ArF Z h a .double n (fun i => .double (f i))) {k : Nat} (hj : j.toInt = (k : Int)) (hk : k < n) (hd : decode c.code pc = .ok (.daload, 1))
    (kk : Go p.tables e below s Q C S (T.setTop (mkF m (pc + 1) Ls (.double (f k) :: rest)))) : Go p.tables e below s Q C S (T.setTop (mkF m pc Ls (.int j :: .ref a :: rest))) := by
  obtain ⟨cl, A, r1, r2, r3, -⟩ := F
  exact Go.of (fun t q => X.daload hx (j := j) (v := .double (f k)) (by rw [eT]; exact A.1) (State.isArrayOf_alike hZ.alike A.2.1) A.2.2 (in_idx hj hk r1) (by rw [nat_idx hj, r3 _ hk]) (g := mkF m pc Ls (.int j :: .ref a :: rest)) rfl rfl hd t q) kk
theorem Go.aaload (X : Stand p l e R s m args below meth c T locs cells slots) (hx : p.tables.exec = Jvm.exec) (hZ : Z.Warmed39 s.vm) (eT : T.heap = h) {ty : FieldType} {f : Nat → Value} (F : ArF Z h a ty n f) (hty : ty.isReference = true) {k : Nat} (hj : j.toInt = (k : Int)) (hk : k < n) {v : Value} (hv : f k = v) (hd : decode c.code pc = .ok (.aaload, 1))
    (kk : Go p.tables e below s Q C S (T.setTop (mkF m (pc + 1) Ls (v :: rest)))) : Go p.tables e below s Q C S (T.setTop (mkF m pc Ls (.int j :: .ref a :: rest))) := by
  obtain ⟨cl, A, r1, r2, r3, -⟩ := F
  exact Go.of (fun t q => X.aaload hx (j := j) (v := v) (by rw [eT]; exact A.1) (State.isArrayOf_alike hZ.alike A.2.1) hty A.2.2 (in_idx hj hk r1) (by rw [nat_idx hj, r3 _ hk, hv]) (g := mkF m pc Ls (.int j :: .ref a :: rest)) rfl rfl hd t q) kk
theorem Go.iastore (X : Stand p l e R s m args below meth c T locs cells slots) (hx : p.tables.exec = Jvm.exec) (hZ : Z.Warmed39 s.vm) (eT : T.heap = h) {f : Nat → Int32} (F : ArF Z h a .int n (fun i => .int (f i))) {x : Int32} {k : Nat} (hj : j.toInt = (k : Int)) (hk : k < n) (hd : decode c.code pc = .ok (.iastore, 1))
    (kk : ∀ T' h', Stand p l e R s m args below meth c T' (locs ++ [⟨a, k⟩]) cells slots → T'.heap = h' → Wr h h' a k (.int x) → ArF Z h' a .int n (fun i => .int (upI f k x i)) → Go p.tables e below s Q C S (T'.setTop (mkF m (pc + 1) Ls rest))) : Go p.tables e below s Q C S (T.setTop (mkF m pc Ls (.int x :: .int j :: .ref a :: rest))) := by
  obtain ⟨cl, A, r1, r2, r3, r4⟩ := F
  obtain ⟨T', h', X', e', W, st⟩ := stI X hx hZ eT A (j := j) (in_idx hj hk r1) (g := mkF m pc Ls (.int x :: .int j :: .ref a :: rest)) rfl rfl hd
  rw [nat_idx hj] at X' W
  exact Go.of st (kk T' h' X' e' W ((ArF.set ⟨cl, A, r1, r2, r3, r4⟩ rfl W).congr fun i _ => by simp only [upV, upI]; split <;> rfl))
theorem Go.lastore (X : Stand p l e R s m args below meth c T locs cells slots) (hx : p.tables.exec = Jvm.exec) (hZ : Z.Warmed39 s.vm) (eT : T.heap = h) {f : Nat → Int64} (F : ArF Z h a .long n (fun i => .long (f i))) {x : Int64} {k : Nat} (hj : j.toInt = (k : Int)) (hk : k < n) (hd : decode c.code pc = .ok (.lastore, 1))
    (kk : ∀ T' h', Stand p l e R s m args below meth c T' (locs ++ [⟨a, k⟩]) cells slots → T'.heap = h' → Wr h h' a k (.long x) → ArF Z h' a .long n (fun i => .long (upJ f k x i)) → Go p.tables e below s Q C S (T'.setTop (mkF m (pc + 1) Ls rest))) : Go p.tables e below s Q C S (T.setTop (mkF m pc Ls (.long x :: .int j :: .ref a :: rest))) := by
  obtain ⟨cl, A, r1, r2, r3, r4⟩ := F
  obtain ⟨T', h', X', e', W, st⟩ := stJ X hx hZ eT A (j := j) (in_idx hj hk r1) (g := mkF m pc Ls (.long x :: .int j :: .ref a :: rest)) rfl rfl hd
  rw [nat_idx hj] at X' W
  exact Go.of st (kk T' h' X' e' W ((ArF.set ⟨cl, A, r1, r2, r3, r4⟩ rfl W).congr fun i _ => by simp only [upV, upJ]; split <;> rfl))
theorem Go.bastore (X : Stand p l e R s m args below meth c T locs cells slots) (hx : p.tables.exec = Jvm.exec) (hZ : Z.Warmed39 s.vm) (eT : T.heap = h) {f : Nat → Int32} (F : ArF Z h a .byte n (fun i => .int (f i))) {x : Int32} {k : Nat} (hj : j.toInt = (k : Int)) (hk : k < n) (hd : decode c.code pc = .ok (.bastore, 1))
    (kk : ∀ T' h', Stand p l e R s m args below meth c T' (locs ++ [⟨a, k⟩]) cells slots → T'.heap = h' → Wr h h' a k (.int (nar .byte x)) → ArF Z h' a .byte n (fun i => .int (upI f k (nar .byte x) i)) → Go p.tables e below s Q C S (T'.setTop (mkF m (pc + 1) Ls rest))) : Go p.tables e below s Q C S (T.setTop (mkF m pc Ls (.int x :: .int j :: .ref a :: rest))) := by
  obtain ⟨cl, A, r1, r2, r3, r4⟩ := F
  obtain ⟨T', h', X', e', W, st⟩ := stB X hx hZ eT A (j := j) (in_idx hj hk r1) (g := mkF m pc Ls (.int x :: .int j :: .ref a :: rest)) rfl rfl hd
  rw [nat_idx hj] at X' W
  exact Go.of st (kk T' h' X' e' W ((ArF.set ⟨cl, A, r1, r2, r3, r4⟩ (fits_nar_byte _) W).congr fun i _ => by simp only [upV, upI]; split <;> rfl))
theorem Go.dastore (X : Stand p l e R s m args below meth c T locs cells slots) (hx : p.tables.exec = Jvm.exec) (hZ : Z.Warmed39 s.vm) (eT : T.heap = h) {f : Nat → UInt64} (F : ArF Z h a .double n (fun i => .double (f i))) {x : UInt64} {k : Nat} (hj : j.toInt = (k : Int)) (hk : k < n) (hd : decode c.code pc = .ok (.dastore, 1))
    (kk : ∀ T' h', Stand p l e R s m args below meth c T' (locs ++ [⟨a, k⟩]) cells slots → T'.heap = h' → Wr h h' a k (.double x) → ArF Z h' a .double n (fun i => .double (upD f k x i)) → Go p.tables e below s Q C S (T'.setTop (mkF m (pc + 1) Ls rest))) : Go p.tables e below s Q C S (T.setTop (mkF m pc Ls (.double x :: .int j :: .ref a :: rest))) := by
  obtain ⟨cl, A, r1, r2, r3, r4⟩ := F
  obtain ⟨T', h', X', e', W, st⟩ := stD X hx hZ eT A (j := j) (in_idx hj hk r1) (g := mkF m pc Ls (.double x :: .int j :: .ref a :: rest)) rfl rfl hd
  rw [nat_idx hj] at X' W
  exact Go.of st (kk T' h' X' e' W ((ArF.set ⟨cl, A, r1, r2, r3, r4⟩ rfl W).congr fun i _ => by simp only [upV, upD]; split <;> rfl))
theorem Go.newarr (X : Stand p l e R s m args below meth c T locs cells slots) (hx : p.tables.exec = Jvm.exec) (hZ : Z.Warmed39 s.vm) {aty : ArrayType} {ty : FieldType} (hty : newarray.typeOf aty = ty) (w : (Cond.arrayClass ty).before a0 Z = true) (eT : T.heap = h) {z : Int32} (hn : ¬ z < 0) (hz : z.toNatClampNeg = n) {cap : Nat} (hcap : n ≤ cap) (hb : cap * 8 ≤ 536870912) (hc : cells + 1 ≤ R.cells) (hl : slots + cap ≤ R.slots)
    (hd : decode c.code pc = .ok (.newarray aty, 2))
    (kk : ∀ T' h' b, Stand p l e R s m args below meth c T' locs (cells + 1) (slots + cap) → T'.heap = h' → Ext h h' → b = h.size → ArF Z h' b ty n (fun _ => defaultValue ty) → Go p.tables e below s Q C S (T'.setTop (mkF m (pc + 2) Ls (.ref b :: rest)))) : Go p.tables e below s Q C S (T.setTop (mkF m pc Ls (.int z :: rest))) := by
  subst hty
  obtain ⟨T', h', cA, X', e', E, A, st⟩ := newP X hx hZ w eT (g := mkF m pc Ls (.int z :: rest)) rfl hd rfl hn (cap := cap) (by omega) hb hc hl
  exact Go.of st (kk T' h' h.size X' e' E rfl (ArF.new A hn hz))
theorem Go.arraycopy (X : Stand p l e R s m args below meth c T locs cells slots) (hx : p.tables.exec = Jvm.exec) (hZ : Z.Warmed39 s.vm) {own : String} {index : Nat} (hown : s.vm.findClass own = some m.cls)
    (w1 : (Cond.methodLink own index Jvm.Stand.acN).before a0 Z = true) (w2 : (Cond.native Jvm.Stand.acN).before a0 Z = true) (w3 : (Cond.static Jvm.Stand.acN).before a0 Z = true) (w4 : (Cond.initialized "java/lang/System").before a0 Z = true) (eT : T.heap = h)
    {ty : FieldType} {b : Addr} {n' : Nat} {f f' : Nat → Value} (A : ArF Z h a ty n f) (B : ArF Z h b ty n' f') (hty : refKind ty = false) {sp dp nn : Int32} {ks kd kn : Nat} (h1 : sp.toInt = (ks : Int)) (h2 : dp.toInt = (kd : Int)) (h3 : nn.toInt = (kn : Int)) (h4 : ks + kn ≤ n) (h5 : kd + kn ≤ n') {n0 : Nat} (N : Fr n0 locs) (ge : n0 ≤ b)
    (hsz : Ls.size = c.maxLocals) (hd : decode c.code pc = .ok (.invokestatic index, 3)) (hf : 1 ≤ R.frames) {W : Nat} (hW : (rest.map fun v => v.category).sum = W) (hlo : W + (nativeFrameWords "java/lang/System" "arraycopy" 5 + 11) ≤ R.locals)
    (kk : ∀ T' h' L, Stand p l e R s m args below meth c T' L cells slots → T'.heap = h' → Fr n0 L → Keep h h' [b] → ArF Z h' b ty n' (cpF f f' ks kd kn) → Go p.tables e below s Q C S (T'.setTop (mkF m (pc + 3) Ls rest))) : Go p.tables e below s Q C S (T.setTop (mkF m pc Ls (.int nn :: .int dp :: .ref b :: .int sp :: .ref a :: rest))) := by
  obtain ⟨k1, A'⟩ := A.arv (.int 0)
  obtain ⟨k2, B'⟩ := B.arv (.int 0)
  have e1 := nat_idx h1
  have e2 := nat_idx h2
  have e3 := nat_idx h3
  have z0 : (0 : Int32).toInt = 0 := rfl
  have zn : (n.toInt32).toNatClampNeg = n := by have := len_toInt A.len; rw [Int32.toNatClampNeg]; omega
  have zn' : (n'.toInt32).toNatClampNeg = n' := by have := len_toInt B.len; rw [Int32.toNatClampNeg]; omega
  obtain ⟨T', h', L, X', e', N', K, V, st⟩ := cpA X hx hZ hown w1 w2 w3 w4 eT A' B' (Or.inl ⟨rfl, hty⟩) (sp := sp) (dp := dp) (nn := nn) (by rw [Int32.lt_iff_toInt_lt]; omega) (by rw [Int32.lt_iff_toInt_lt]; omega) (by rw [Int32.lt_iff_toInt_lt]; omega) (by rw [e1, e3, zn]; exact h4) (by rw [e2, e3, zn']; exact h5) rfl (by rw [e2, e3]; simpa using h5) N ge (g := mkF m pc Ls (.int nn :: .int dp :: .ref b :: .int sp :: .ref a :: rest)) rfl hsz rfl hd hf (W := W) (by show 2 * 0 + _ ≤ _; rw [hW]; omega) hlo
  refine Go.of st (kk T' h' L X' e' N' K ?_)
  have V2 := arF_of_arv V
  rw [zn'] at V2
  refine V2.congr fun i hi => ?_
  rw [e1, e2, e3]
  simp only [cpF, List.getD]
  by_cases c1 : i < kd
  · rw [if_neg (by omega), List.append_assoc, List.getElem?_append_left (by simp; omega)]
    simp [c1, hi]
  · by_cases c2 : i < kd + kn
    · have c3 : ks + (i - kd) < n := by omega
      have c4 : i - kd < kn := by omega
      rw [if_pos ⟨by omega, c2⟩, List.append_assoc, List.getElem?_append_right (by simp; omega)]
      have c5 : (List.take kd (List.map f' (List.range n'))).length = kd := by simp; omega
      rw [c5, List.getElem?_append_left (by simpa using c4)]
      simp [c4, c3]
    · have c5 : (List.take kd (List.map f' (List.range n')) ++ List.map (fun i => ((List.map f (List.range n))[ks + i]?).getD (Value.int 0)) (List.range kn)).length = kd + kn := by simp; omega
      rw [if_neg (by omega), List.getElem?_append_right (by rw [c5]; omega), c5]
      have c6 : kd + kn + (i - (kd + kn)) = i := by omega
      simp [c6, hi]
end ArrSteps
section Steps1
variable {p : Program} {l : Launch} {e : Env} {R : Room} {s : State} {m : MethodId} {args : Array Value} {below : List Frame} {meth : Method} {c : Code} {T : State} {locs : List Loc} {cells slots : Nat} {Q : Option Value → Heap → List Loc → Prop} {C S : Nat} {bs : ByteArray} {pc pc' : Nat} {Ls : Array Slot} {st : List Value} {Z : State} {a0 : Array Value} {h : Heap} {own : String}
theorem g_iloadN (X : Stand p l e R s m args below meth c T locs cells slots) (hx : p.tables.exec = Jvm.exec) (hby : c.code = bs) {k : Fin 4} {v : Int32} (hd : decode bs pc = .ok (.iload_n k, 1)) (hp : pc + 1 = pc') (hl : Ls[k.val]? = some (.val (.int v))) (kk : Go p.tables e below s Q C S (T.setTop (mkF m pc' Ls (.int v :: st)))) : Go p.tables e below s Q C S (T.setTop (mkF m pc Ls (st))) := by
  subst hp
  exact Go.of (fun _ q => XS.iloadN X.here hx rfl (hb hby hd) hl q) kk
theorem g_iload (X : Stand p l e R s m args below meth c T locs cells slots) (hx : p.tables.exec = Jvm.exec) (hby : c.code = bs) {k : Nat} {v : Int32} (hd : decode bs pc = .ok (.iload k, 2)) (hp : pc + 2 = pc') (hl : Ls[k]? = some (.val (.int v))) (kk : Go p.tables e below s Q C S (T.setTop (mkF m pc' Ls (.int v :: st)))) : Go p.tables e below s Q C S (T.setTop (mkF m pc Ls (st))) := by
  subst hp
  exact Go.of (fun _ q => XS.iload X.here hx rfl (hb hby hd) hl q) kk
theorem g_istoreN (X : Stand p l e R s m args below meth c T locs cells slots) (hx : p.tables.exec = Jvm.exec) (hby : c.code = bs) {k : Fin 4} {v : Int32} {L' : Array Slot} (hd : decode bs pc = .ok (.istore_n k, 1)) (hp : pc + 1 = pc') (hl : storeLocals Ls k.val (.int v) = some L') (kk : Go p.tables e below s Q C S (T.setTop (mkF m pc' L' (st)))) : Go p.tables e below s Q C S (T.setTop (mkF m pc Ls (.int v :: st))) := by
  subst hp
  exact Go.of (fun _ q => XS.istoreN X.here hx rfl (hb hby hd) rfl hl q) kk
theorem g_istore (X : Stand p l e R s m args below meth c T locs cells slots) (hx : p.tables.exec = Jvm.exec) (hby : c.code = bs) {k : Nat} {v : Int32} {L' : Array Slot} (hd : decode bs pc = .ok (.istore k, 2)) (hp : pc + 2 = pc') (hl : storeLocals Ls k (.int v) = some L') (kk : Go p.tables e below s Q C S (T.setTop (mkF m pc' L' (st)))) : Go p.tables e below s Q C S (T.setTop (mkF m pc Ls (.int v :: st))) := by
  subst hp
  exact Go.of (fun _ q => XS.istore X.here hx rfl (hb hby hd) rfl hl q) kk
theorem g_iadd (X : Stand p l e R s m args below meth c T locs cells slots) (hx : p.tables.exec = Jvm.exec) (hby : c.code = bs) {x y z : Int32} (hd : decode bs pc = .ok (.iadd, 1)) (hp : pc + 1 = pc') (hz : x + y = z) (kk : Go p.tables e below s Q C S (T.setTop (mkF m pc' Ls (.int z :: st)))) : Go p.tables e below s Q C S (T.setTop (mkF m pc Ls (.int y :: .int x :: st))) := by
  subst hp; subst hz
  exact Go.of (fun _ q => XS.iadd X.here hx rfl (hb hby hd) rfl q) kk
theorem g_isub (X : Stand p l e R s m args below meth c T locs cells slots) (hx : p.tables.exec = Jvm.exec) (hby : c.code = bs) {x y z : Int32} (hd : decode bs pc = .ok (.isub, 1)) (hp : pc + 1 = pc') (hz : x - y = z) (kk : Go p.tables e below s Q C S (T.setTop (mkF m pc' Ls (.int z :: st)))) : Go p.tables e below s Q C S (T.setTop (mkF m pc Ls (.int y :: .int x :: st))) := by
  subst hp; subst hz
  exact Go.of (fun _ q => XS.isub X.here hx rfl (hb hby hd) rfl q) kk
theorem g_imul (X : Stand p l e R s m args below meth c T locs cells slots) (hx : p.tables.exec = Jvm.exec) (hby : c.code = bs) {x y z : Int32} (hd : decode bs pc = .ok (.imul, 1)) (hp : pc + 1 = pc') (hz : x * y = z) (kk : Go p.tables e below s Q C S (T.setTop (mkF m pc' Ls (.int z :: st)))) : Go p.tables e below s Q C S (T.setTop (mkF m pc Ls (.int y :: .int x :: st))) := by
  subst hp; subst hz
  exact Go.of (fun _ q => XS.imul X.here hx rfl (hb hby hd) rfl q) kk
theorem g_iand (X : Stand p l e R s m args below meth c T locs cells slots) (hx : p.tables.exec = Jvm.exec) (hby : c.code = bs) {x y z : Int32} (hd : decode bs pc = .ok (.iand, 1)) (hp : pc + 1 = pc') (hz : x &&& y = z) (kk : Go p.tables e below s Q C S (T.setTop (mkF m pc' Ls (.int z :: st)))) : Go p.tables e below s Q C S (T.setTop (mkF m pc Ls (.int y :: .int x :: st))) := by
  subst hp; subst hz
  exact Go.of (fun _ q => XS.iand X.here hx rfl (hb hby hd) rfl q) kk
theorem g_ior (X : Stand p l e R s m args below meth c T locs cells slots) (hx : p.tables.exec = Jvm.exec) (hby : c.code = bs) {x y z : Int32} (hd : decode bs pc = .ok (.ior, 1)) (hp : pc + 1 = pc') (hz : x ||| y = z) (kk : Go p.tables e below s Q C S (T.setTop (mkF m pc' Ls (.int z :: st)))) : Go p.tables e below s Q C S (T.setTop (mkF m pc Ls (.int y :: .int x :: st))) := by
  subst hp; subst hz
  exact Go.of (fun _ q => XS.ior X.here hx rfl (hb hby hd) rfl q) kk
theorem g_ixor (X : Stand p l e R s m args below meth c T locs cells slots) (hx : p.tables.exec = Jvm.exec) (hby : c.code = bs) {x y z : Int32} (hd : decode bs pc = .ok (.ixor, 1)) (hp : pc + 1 = pc') (hz : x ^^^ y = z) (kk : Go p.tables e below s Q C S (T.setTop (mkF m pc' Ls (.int z :: st)))) : Go p.tables e below s Q C S (T.setTop (mkF m pc Ls (.int y :: .int x :: st))) := by
  subst hp; subst hz
  exact Go.of (fun _ q => XS.ixor X.here hx rfl (hb hby hd) rfl q) kk
theorem g_ineg (X : Stand p l e R s m args below meth c T locs cells slots) (hx : p.tables.exec = Jvm.exec) (hby : c.code = bs) {x z : Int32} (hd : decode bs pc = .ok (.ineg, 1)) (hp : pc + 1 = pc') (hz : -x = z) (kk : Go p.tables e below s Q C S (T.setTop (mkF m pc' Ls (.int z :: st)))) : Go p.tables e below s Q C S (T.setTop (mkF m pc Ls (.int x :: st))) := by
  subst hp; subst hz
  exact Go.of (fun _ q => XS.ineg X.here hx rfl (hb hby hd) rfl q) kk
theorem g_idiv (X : Stand p l e R s m args below meth c T locs cells slots) (hx : p.tables.exec = Jvm.exec) (hby : c.code = bs) {x y z : Int32} (hd : decode bs pc = .ok (.idiv, 1)) (hp : pc + 1 = pc') (hy : y ≠ 0) (hz : x / y = z) (kk : Go p.tables e below s Q C S (T.setTop (mkF m pc' Ls (.int z :: st)))) : Go p.tables e below s Q C S (T.setTop (mkF m pc Ls (.int y :: .int x :: st))) := by
  subst hp; subst hz
  exact Go.of (fun _ q => XS.idiv X.here hx rfl (hb hby hd) rfl hy q) kk
theorem g_lloadN (X : Stand p l e R s m args below meth c T locs cells slots) (hx : p.tables.exec = Jvm.exec) (hby : c.code = bs) {k : Fin 4} {v : Int64} (hd : decode bs pc = .ok (.lload_n k, 1)) (hp : pc + 1 = pc') (hl : Ls[k.val]? = some (.val (.long v))) (kk : Go p.tables e below s Q C S (T.setTop (mkF m pc' Ls (.long v :: st)))) : Go p.tables e below s Q C S (T.setTop (mkF m pc Ls (st))) := by
  subst hp
  exact Go.of (fun _ q => XS.lloadN X.here hx rfl (hb hby hd) hl q) kk
theorem g_lload (X : Stand p l e R s m args below meth c T locs cells slots) (hx : p.tables.exec = Jvm.exec) (hby : c.code = bs) {k : Nat} {v : Int64} (hd : decode bs pc = .ok (.lload k, 2)) (hp : pc + 2 = pc') (hl : Ls[k]? = some (.val (.long v))) (kk : Go p.tables e below s Q C S (T.setTop (mkF m pc' Ls (.long v :: st)))) : Go p.tables e below s Q C S (T.setTop (mkF m pc Ls (st))) := by
  subst hp
  exact Go.of (fun _ q => XS.lload X.here hx rfl (hb hby hd) hl q) kk
theorem g_lstoreN (X : Stand p l e R s m args below meth c T locs cells slots) (hx : p.tables.exec = Jvm.exec) (hby : c.code = bs) {k : Fin 4} {v : Int64} {L' : Array Slot} (hd : decode bs pc = .ok (.lstore_n k, 1)) (hp : pc + 1 = pc') (hl : storeLocals Ls k.val (.long v) = some L') (kk : Go p.tables e below s Q C S (T.setTop (mkF m pc' L' (st)))) : Go p.tables e below s Q C S (T.setTop (mkF m pc Ls (.long v :: st))) := by
  subst hp
  exact Go.of (fun _ q => XS.lstoreN X.here hx rfl (hb hby hd) rfl hl q) kk
theorem g_lstore (X : Stand p l e R s m args below meth c T locs cells slots) (hx : p.tables.exec = Jvm.exec) (hby : c.code = bs) {k : Nat} {v : Int64} {L' : Array Slot} (hd : decode bs pc = .ok (.lstore k, 2)) (hp : pc + 2 = pc') (hl : storeLocals Ls k (.long v) = some L') (kk : Go p.tables e below s Q C S (T.setTop (mkF m pc' L' (st)))) : Go p.tables e below s Q C S (T.setTop (mkF m pc Ls (.long v :: st))) := by
  subst hp
  exact Go.of (fun _ q => XS.lstore X.here hx rfl (hb hby hd) rfl hl q) kk
theorem g_ladd (X : Stand p l e R s m args below meth c T locs cells slots) (hx : p.tables.exec = Jvm.exec) (hby : c.code = bs) {x y z : Int64} (hd : decode bs pc = .ok (.ladd, 1)) (hp : pc + 1 = pc') (hz : x + y = z) (kk : Go p.tables e below s Q C S (T.setTop (mkF m pc' Ls (.long z :: st)))) : Go p.tables e below s Q C S (T.setTop (mkF m pc Ls (.long y :: .long x :: st))) := by
  subst hp; subst hz
  exact Go.of (fun _ q => XS.ladd X.here hx rfl (hb hby hd) rfl q) kk
theorem g_lsub (X : Stand p l e R s m args below meth c T locs cells slots) (hx : p.tables.exec = Jvm.exec) (hby : c.code = bs) {x y z : Int64} (hd : decode bs pc = .ok (.lsub, 1)) (hp : pc + 1 = pc') (hz : x - y = z) (kk : Go p.tables e below s Q C S (T.setTop (mkF m pc' Ls (.long z :: st)))) : Go p.tables e below s Q C S (T.setTop (mkF m pc Ls (.long y :: .long x :: st))) := by
  subst hp; subst hz
  exact Go.of (fun _ q => XS.lsub X.here hx rfl (hb hby hd) rfl q) kk
theorem g_lmul (X : Stand p l e R s m args below meth c T locs cells slots) (hx : p.tables.exec = Jvm.exec) (hby : c.code = bs) {x y z : Int64} (hd : decode bs pc = .ok (.lmul, 1)) (hp : pc + 1 = pc') (hz : x * y = z) (kk : Go p.tables e below s Q C S (T.setTop (mkF m pc' Ls (.long z :: st)))) : Go p.tables e below s Q C S (T.setTop (mkF m pc Ls (.long y :: .long x :: st))) := by
  subst hp; subst hz
  exact Go.of (fun _ q => XS.lmul X.here hx rfl (hb hby hd) rfl q) kk
theorem g_land (X : Stand p l e R s m args below meth c T locs cells slots) (hx : p.tables.exec = Jvm.exec) (hby : c.code = bs) {x y z : Int64} (hd : decode bs pc = .ok (.land, 1)) (hp : pc + 1 = pc') (hz : x &&& y = z) (kk : Go p.tables e below s Q C S (T.setTop (mkF m pc' Ls (.long z :: st)))) : Go p.tables e below s Q C S (T.setTop (mkF m pc Ls (.long y :: .long x :: st))) := by
  subst hp; subst hz
  exact Go.of (fun _ q => XS.land X.here hx rfl (hb hby hd) rfl q) kk
theorem g_lor (X : Stand p l e R s m args below meth c T locs cells slots) (hx : p.tables.exec = Jvm.exec) (hby : c.code = bs) {x y z : Int64} (hd : decode bs pc = .ok (.lor, 1)) (hp : pc + 1 = pc') (hz : x ||| y = z) (kk : Go p.tables e below s Q C S (T.setTop (mkF m pc' Ls (.long z :: st)))) : Go p.tables e below s Q C S (T.setTop (mkF m pc Ls (.long y :: .long x :: st))) := by
  subst hp; subst hz
  exact Go.of (fun _ q => XS.lor X.here hx rfl (hb hby hd) rfl q) kk
theorem g_lxor (X : Stand p l e R s m args below meth c T locs cells slots) (hx : p.tables.exec = Jvm.exec) (hby : c.code = bs) {x y z : Int64} (hd : decode bs pc = .ok (.lxor, 1)) (hp : pc + 1 = pc') (hz : x ^^^ y = z) (kk : Go p.tables e below s Q C S (T.setTop (mkF m pc' Ls (.long z :: st)))) : Go p.tables e below s Q C S (T.setTop (mkF m pc Ls (.long y :: .long x :: st))) := by
  subst hp; subst hz
  exact Go.of (fun _ q => XS.lxor X.here hx rfl (hb hby hd) rfl q) kk
theorem g_lneg (X : Stand p l e R s m args below meth c T locs cells slots) (hx : p.tables.exec = Jvm.exec) (hby : c.code = bs) {x z : Int64} (hd : decode bs pc = .ok (.lneg, 1)) (hp : pc + 1 = pc') (hz : -x = z) (kk : Go p.tables e below s Q C S (T.setTop (mkF m pc' Ls (.long z :: st)))) : Go p.tables e below s Q C S (T.setTop (mkF m pc Ls (.long x :: st))) := by
  subst hp; subst hz
  exact Go.of (fun _ q => XS.lneg X.here hx rfl (hb hby hd) rfl q) kk
theorem g_ldiv (X : Stand p l e R s m args below meth c T locs cells slots) (hx : p.tables.exec = Jvm.exec) (hby : c.code = bs) {x y z : Int64} (hd : decode bs pc = .ok (.ldiv, 1)) (hp : pc + 1 = pc') (hy : y ≠ 0) (hz : x / y = z) (kk : Go p.tables e below s Q C S (T.setTop (mkF m pc' Ls (.long z :: st)))) : Go p.tables e below s Q C S (T.setTop (mkF m pc Ls (.long y :: .long x :: st))) := by
  subst hp; subst hz
  exact Go.of (fun _ q => XS.ldiv X.here hx rfl (hb hby hd) rfl hy q) kk
theorem g_dloadN (X : Stand p l e R s m args below meth c T locs cells slots) (hx : p.tables.exec = Jvm.exec) (hby : c.code = bs) {k : Fin 4} {v : UInt64} (hd : decode bs pc = .ok (.dload_n k, 1)) (hp : pc + 1 = pc') (hl : Ls[k.val]? = some (.val (.double v))) (kk : Go p.tables e below s Q C S (T.setTop (mkF m pc' Ls (.double v :: st)))) : Go p.tables e below s Q C S (T.setTop (mkF m pc Ls (st))) := by
  subst hp
  exact Go.of (fun _ q => XS.dloadN X.here hx rfl (hb hby hd) hl q) kk
theorem g_dload (X : Stand p l e R s m args below meth c T locs cells slots) (hx : p.tables.exec = Jvm.exec) (hby : c.code = bs) {k : Nat} {v : UInt64} (hd : decode bs pc = .ok (.dload k, 2)) (hp : pc + 2 = pc') (hl : Ls[k]? = some (.val (.double v))) (kk : Go p.tables e below s Q C S (T.setTop (mkF m pc' Ls (.double v :: st)))) : Go p.tables e below s Q C S (T.setTop (mkF m pc Ls (st))) := by
  subst hp
  exact Go.of (fun _ q => XS.dload X.here hx rfl (hb hby hd) hl q) kk
theorem g_dstoreN (X : Stand p l e R s m args below meth c T locs cells slots) (hx : p.tables.exec = Jvm.exec) (hby : c.code = bs) {k : Fin 4} {v : UInt64} {L' : Array Slot} (hd : decode bs pc = .ok (.dstore_n k, 1)) (hp : pc + 1 = pc') (hl : storeLocals Ls k.val (.double v) = some L') (kk : Go p.tables e below s Q C S (T.setTop (mkF m pc' L' (st)))) : Go p.tables e below s Q C S (T.setTop (mkF m pc Ls (.double v :: st))) := by
  subst hp
  exact Go.of (fun _ q => XS.dstoreN X.here hx rfl (hb hby hd) rfl hl q) kk
theorem g_dstore (X : Stand p l e R s m args below meth c T locs cells slots) (hx : p.tables.exec = Jvm.exec) (hby : c.code = bs) {k : Nat} {v : UInt64} {L' : Array Slot} (hd : decode bs pc = .ok (.dstore k, 2)) (hp : pc + 2 = pc') (hl : storeLocals Ls k (.double v) = some L') (kk : Go p.tables e below s Q C S (T.setTop (mkF m pc' L' (st)))) : Go p.tables e below s Q C S (T.setTop (mkF m pc Ls (.double v :: st))) := by
  subst hp
  exact Go.of (fun _ q => XS.dstore X.here hx rfl (hb hby hd) rfl hl q) kk
theorem g_irem (X : Stand p l e R s m args below meth c T locs cells slots) (hx : p.tables.exec = Jvm.exec) (hby : c.code = bs) {x y z : Int32} (hd : decode bs pc = .ok (.irem, 1)) (hp : pc + 1 = pc') (hy : y ≠ 0) (hz : x % y = z) (kk : Go p.tables e below s Q C S (T.setTop (mkF m pc' Ls (.int z :: st)))) : Go p.tables e below s Q C S (T.setTop (mkF m pc Ls (.int y :: .int x :: st))) := by
  subst hp; subst hz
  exact Go.of (fun _ q => XS.irem X.here hx rfl (hb hby hd) rfl hy (by rw [irem_mod]; exact q)) kk
theorem g_ishl (X : Stand p l e R s m args below meth c T locs cells slots) (hx : p.tables.exec = Jvm.exec) (hby : c.code = bs) {x z : Int32} {y : Int32} (hd : decode bs pc = .ok (.ishl, 1)) (hp : pc + 1 = pc') (hz : x <<< (y &&& 31) = z) (kk : Go p.tables e below s Q C S (T.setTop (mkF m pc' Ls (.int z :: st)))) : Go p.tables e below s Q C S (T.setTop (mkF m pc Ls (.int y :: .int x :: st))) := by
  subst hp; subst hz
  exact Go.of (fun _ q => XS.ishl X.here hx rfl (hb hby hd) rfl q) kk
theorem g_ishr (X : Stand p l e R s m args below meth c T locs cells slots) (hx : p.tables.exec = Jvm.exec) (hby : c.code = bs) {x z : Int32} {y : Int32} (hd : decode bs pc = .ok (.ishr, 1)) (hp : pc + 1 = pc') (hz : x >>> (y &&& 31) = z) (kk : Go p.tables e below s Q C S (T.setTop (mkF m pc' Ls (.int z :: st)))) : Go p.tables e below s Q C S (T.setTop (mkF m pc Ls (.int y :: .int x :: st))) := by
  subst hp; subst hz
  exact Go.of (fun _ q => XS.ishr X.here hx rfl (hb hby hd) rfl q) kk
theorem g_iushr (X : Stand p l e R s m args below meth c T locs cells slots) (hx : p.tables.exec = Jvm.exec) (hby : c.code = bs) {x z : Int32} {y : Int32} (hd : decode bs pc = .ok (.iushr, 1)) (hp : pc + 1 = pc') (hz : (x.toUInt32 >>> (y &&& 31).toUInt32).toInt32 = z) (kk : Go p.tables e below s Q C S (T.setTop (mkF m pc' Ls (.int z :: st)))) : Go p.tables e below s Q C S (T.setTop (mkF m pc Ls (.int y :: .int x :: st))) := by
  subst hp; subst hz
  exact Go.of (fun _ q => XS.iushr X.here hx rfl (hb hby hd) rfl q) kk
theorem g_lshl (X : Stand p l e R s m args below meth c T locs cells slots) (hx : p.tables.exec = Jvm.exec) (hby : c.code = bs) {x z : Int64} {y : Int32} (hd : decode bs pc = .ok (.lshl, 1)) (hp : pc + 1 = pc') (hz : x <<< (y &&& 0x3f).toInt64 = z) (kk : Go p.tables e below s Q C S (T.setTop (mkF m pc' Ls (.long z :: st)))) : Go p.tables e below s Q C S (T.setTop (mkF m pc Ls (.int y :: .long x :: st))) := by
  subst hp; subst hz
  exact Go.of (fun _ q => XS.lshl X.here hx rfl (hb hby hd) rfl q) kk
theorem g_lshr (X : Stand p l e R s m args below meth c T locs cells slots) (hx : p.tables.exec = Jvm.exec) (hby : c.code = bs) {x z : Int64} {y : Int32} (hd : decode bs pc = .ok (.lshr, 1)) (hp : pc + 1 = pc') (hz : x >>> (y &&& 0x3f).toInt64 = z) (kk : Go p.tables e below s Q C S (T.setTop (mkF m pc' Ls (.long z :: st)))) : Go p.tables e below s Q C S (T.setTop (mkF m pc Ls (.int y :: .long x :: st))) := by
  subst hp; subst hz
  exact Go.of (fun _ q => XS.lshr X.here hx rfl (hb hby hd) rfl q) kk
theorem g_lushr (X : Stand p l e R s m args below meth c T locs cells slots) (hx : p.tables.exec = Jvm.exec) (hby : c.code = bs) {x z : Int64} {y : Int32} (hd : decode bs pc = .ok (.lushr, 1)) (hp : pc + 1 = pc') (hz : (x.toUInt64 >>> (y &&& 0x3f).toInt64.toUInt64).toInt64 = z) (kk : Go p.tables e below s Q C S (T.setTop (mkF m pc' Ls (.long z :: st)))) : Go p.tables e below s Q C S (T.setTop (mkF m pc Ls (.int y :: .long x :: st))) := by
  subst hp; subst hz
  exact Go.of (fun _ q => XS.lushr X.here hx rfl (hb hby hd) rfl q) kk
theorem g_i2l (X : Stand p l e R s m args below meth c T locs cells slots) (hx : p.tables.exec = Jvm.exec) (hby : c.code = bs) {x : Int32} {z : Int64} (hd : decode bs pc = .ok (.i2l, 1)) (hp : pc + 1 = pc') (hz : x.toInt64 = z) (kk : Go p.tables e below s Q C S (T.setTop (mkF m pc' Ls (.long z :: st)))) : Go p.tables e below s Q C S (T.setTop (mkF m pc Ls (.int x :: st))) := by
  subst hp; subst hz
  exact Go.of (fun _ q => XS.i2l X.here hx rfl (hb hby hd) rfl q) kk
theorem g_l2i (X : Stand p l e R s m args below meth c T locs cells slots) (hx : p.tables.exec = Jvm.exec) (hby : c.code = bs) {x : Int64} {z : Int32} (hd : decode bs pc = .ok (.l2i, 1)) (hp : pc + 1 = pc') (hz : x.toInt32 = z) (kk : Go p.tables e below s Q C S (T.setTop (mkF m pc' Ls (.int z :: st)))) : Go p.tables e below s Q C S (T.setTop (mkF m pc Ls (.long x :: st))) := by
  subst hp; subst hz
  exact Go.of (fun _ q => XS.l2i X.here hx rfl (hb hby hd) rfl q) kk
theorem g_i2b (X : Stand p l e R s m args below meth c T locs cells slots) (hx : p.tables.exec = Jvm.exec) (hby : c.code = bs) {x : Int32} {z : Int32} (hd : decode bs pc = .ok (.i2b, 1)) (hp : pc + 1 = pc') (hz : x.toInt8.toInt32 = z) (kk : Go p.tables e below s Q C S (T.setTop (mkF m pc' Ls (.int z :: st)))) : Go p.tables e below s Q C S (T.setTop (mkF m pc Ls (.int x :: st))) := by
  subst hp; subst hz
  exact Go.of (fun _ q => XS.i2b X.here hx rfl (hb hby hd) rfl q) kk
theorem g_i2c (X : Stand p l e R s m args below meth c T locs cells slots) (hx : p.tables.exec = Jvm.exec) (hby : c.code = bs) {x : Int32} {z : Int32} (hd : decode bs pc = .ok (.i2c, 1)) (hp : pc + 1 = pc') (hz : x.toUInt32.toUInt16.toUInt32.toInt32 = z) (kk : Go p.tables e below s Q C S (T.setTop (mkF m pc' Ls (.int z :: st)))) : Go p.tables e below s Q C S (T.setTop (mkF m pc Ls (.int x :: st))) := by
  subst hp; subst hz
  exact Go.of (fun _ q => XS.i2c X.here hx rfl (hb hby hd) rfl q) kk
theorem g_i2s (X : Stand p l e R s m args below meth c T locs cells slots) (hx : p.tables.exec = Jvm.exec) (hby : c.code = bs) {x : Int32} {z : Int32} (hd : decode bs pc = .ok (.i2s, 1)) (hp : pc + 1 = pc') (hz : x.toInt16.toInt32 = z) (kk : Go p.tables e below s Q C S (T.setTop (mkF m pc' Ls (.int z :: st)))) : Go p.tables e below s Q C S (T.setTop (mkF m pc Ls (.int x :: st))) := by
  subst hp; subst hz
  exact Go.of (fun _ q => XS.i2s X.here hx rfl (hb hby hd) rfl q) kk
theorem g_lcmp (X : Stand p l e R s m args below meth c T locs cells slots) (hx : p.tables.exec = Jvm.exec) (hby : c.code = bs) {x y : Int64} (hd : decode bs pc = .ok (.lcmp, 1)) (hp : pc + 1 = pc')  (kk : Go p.tables e below s Q C S (T.setTop (mkF m pc' Ls (.int (lcmpW x y) :: st)))) : Go p.tables e below s Q C S (T.setTop (mkF m pc Ls (.long y :: .long x :: st))) := by
  subst hp
  exact Go.of (fun _ q => XS.lcmp X.here hx rfl (hb hby hd) rfl q) kk
theorem g_aloadN (X : Stand p l e R s m args below meth c T locs cells slots) (hx : p.tables.exec = Jvm.exec) (hby : c.code = bs) {k : Fin 4} {v : Value} (hd : decode bs pc = .ok (.aload_n k, 1)) (hp : pc + 1 = pc') (hl : Ls[k.val]? = some (.val v)) (hr : v.isRef = true) (kk : Go p.tables e below s Q C S (T.setTop (mkF m pc' Ls (v :: st)))) : Go p.tables e below s Q C S (T.setTop (mkF m pc Ls (st))) := by
  subst hp
  exact Go.of (fun _ q => XS.aloadN X.here hx rfl (hb hby hd) hl hr q) kk
theorem g_aload (X : Stand p l e R s m args below meth c T locs cells slots) (hx : p.tables.exec = Jvm.exec) (hby : c.code = bs) {k : Nat} {v : Value} (hd : decode bs pc = .ok (.aload k, 2)) (hp : pc + 2 = pc') (hl : Ls[k]? = some (.val v)) (hr : v.isRef = true) (kk : Go p.tables e below s Q C S (T.setTop (mkF m pc' Ls (v :: st)))) : Go p.tables e below s Q C S (T.setTop (mkF m pc Ls (st))) := by
  subst hp
  exact Go.of (fun _ q => XS.aload X.here hx rfl (hb hby hd) hl hr q) kk
theorem g_astoreN (X : Stand p l e R s m args below meth c T locs cells slots) (hx : p.tables.exec = Jvm.exec) (hby : c.code = bs) {k : Fin 4} {v : Value} {L' : Array Slot} (hd : decode bs pc = .ok (.astore_n k, 1)) (hp : pc + 1 = pc') (hr : v.isRef = true) (hl : storeLocals Ls k.val v = some L') (kk : Go p.tables e below s Q C S (T.setTop (mkF m pc' L' (st)))) : Go p.tables e below s Q C S (T.setTop (mkF m pc Ls (v :: st))) := by
  subst hp
  exact Go.of (fun _ q => XS.astoreN X.here hx rfl (hb hby hd) rfl hr hl q) kk
theorem g_astore (X : Stand p l e R s m args below meth c T locs cells slots) (hx : p.tables.exec = Jvm.exec) (hby : c.code = bs) {k : Nat} {v : Value} {L' : Array Slot} (hd : decode bs pc = .ok (.astore k, 2)) (hp : pc + 2 = pc') (hr : v.isRef = true) (hl : storeLocals Ls k v = some L') (kk : Go p.tables e below s Q C S (T.setTop (mkF m pc' L' (st)))) : Go p.tables e below s Q C S (T.setTop (mkF m pc Ls (v :: st))) := by
  subst hp
  exact Go.of (fun _ q => XS.astore X.here hx rfl (hb hby hd) rfl hr hl q) kk
theorem g_iconst (X : Stand p l e R s m args below meth c T locs cells slots) (hx : p.tables.exec = Jvm.exec) (hby : c.code = bs) {i : Int} {z : Int32} (hd : decode bs pc = .ok (.iconst i, 1)) (hp : pc + 1 = pc') (hz : Int32.ofInt i = z) (kk : Go p.tables e below s Q C S (T.setTop (mkF m pc' Ls (.int z :: st)))) : Go p.tables e below s Q C S (T.setTop (mkF m pc Ls (st))) := by
  subst hp; subst hz
  exact Go.of (fun _ q => XS.iconst X.here hx rfl (hb hby hd) q) kk
theorem g_bipush (X : Stand p l e R s m args below meth c T locs cells slots) (hx : p.tables.exec = Jvm.exec) (hby : c.code = bs) {i : Int} {z : Int32} (hd : decode bs pc = .ok (.bipush i, 2)) (hp : pc + 2 = pc') (hz : (Int8.ofInt i).toInt32 = z) (kk : Go p.tables e below s Q C S (T.setTop (mkF m pc' Ls (.int z :: st)))) : Go p.tables e below s Q C S (T.setTop (mkF m pc Ls (st))) := by
  subst hp; subst hz
  exact Go.of (fun _ q => XS.bipush X.here hx rfl (hb hby hd) q) kk
theorem g_sipush (X : Stand p l e R s m args below meth c T locs cells slots) (hx : p.tables.exec = Jvm.exec) (hby : c.code = bs) {i : Int} {z : Int32} (hd : decode bs pc = .ok (.sipush i, 3)) (hp : pc + 3 = pc') (hz : (Int16.ofInt i).toInt32 = z) (kk : Go p.tables e below s Q C S (T.setTop (mkF m pc' Ls (.int z :: st)))) : Go p.tables e below s Q C S (T.setTop (mkF m pc Ls (st))) := by
  subst hp; subst hz
  exact Go.of (fun _ q => XS.sipush X.here hx rfl (hb hby hd) q) kk
theorem g_aconst_null (X : Stand p l e R s m args below meth c T locs cells slots) (hx : p.tables.exec = Jvm.exec) (hby : c.code = bs)  (hd : decode bs pc = .ok (.aconst_null, 1)) (hp : pc + 1 = pc')  (kk : Go p.tables e below s Q C S (T.setTop (mkF m pc' Ls (.null :: st)))) : Go p.tables e below s Q C S (T.setTop (mkF m pc Ls (st))) := by
  subst hp
  exact Go.of (fun _ q => XS.aconstNull X.here hx rfl (hb hby hd) q) kk
theorem g_iinc (X : Stand p l e R s m args below meth c T locs cells slots) (hx : p.tables.exec = Jvm.exec) (hby : c.code = bs) {k : Nat} {i : Int} {x : Int32} {L' : Array Slot} (hd : decode bs pc = .ok (.iinc k i, 3)) (hp : pc + 3 = pc') (hl : Ls[k]? = some (.val (.int x))) (hl' : storeLocals Ls k (.int (x + Int32.ofInt i)) = some L') (kk : Go p.tables e below s Q C S (T.setTop (mkF m pc' L' (st)))) : Go p.tables e below s Q C S (T.setTop (mkF m pc Ls (st))) := by
  subst hp
  exact Go.of (fun _ q => XS.iinc X.here hx rfl (hb hby hd) hl hl' q) kk
theorem g_dup (X : Stand p l e R s m args below meth c T locs cells slots) (hx : p.tables.exec = Jvm.exec) (hby : c.code = bs) {v : Value} (hd : decode bs pc = .ok (.dup, 1)) (hp : pc + 1 = pc') (hc : v.category = 1) (kk : Go p.tables e below s Q C S (T.setTop (mkF m pc' Ls (v :: v :: st)))) : Go p.tables e below s Q C S (T.setTop (mkF m pc Ls (v :: st))) := by
  subst hp
  exact Go.of (fun _ q => XS.dup X.here hx rfl (hb hby hd) rfl hc q) kk
theorem g_pop (X : Stand p l e R s m args below meth c T locs cells slots) (hx : p.tables.exec = Jvm.exec) (hby : c.code = bs) {v : Value} (hd : decode bs pc = .ok (.pop, 1)) (hp : pc + 1 = pc') (hc : v.category = 1) (kk : Go p.tables e below s Q C S (T.setTop (mkF m pc' Ls (st)))) : Go p.tables e below s Q C S (T.setTop (mkF m pc Ls (v :: st))) := by
  subst hp
  exact Go.of (fun _ q => XS.pop X.here hx rfl (hb hby hd) rfl hc q) kk
theorem g_dup_x1 (X : Stand p l e R s m args below meth c T locs cells slots) (hx : p.tables.exec = Jvm.exec) (hby : c.code = bs) {v w : Value} (hd : decode bs pc = .ok (.dup_x1, 1)) (hp : pc + 1 = pc') (hc : v.category = 1) (hc' : w.category = 1) (kk : Go p.tables e below s Q C S (T.setTop (mkF m pc' Ls (v :: w :: v :: st)))) : Go p.tables e below s Q C S (T.setTop (mkF m pc Ls (v :: w :: st))) := by
  subst hp
  exact Go.of (fun _ q => XS.dupX1 X.here hx rfl (hb hby hd) rfl hc hc' q) kk
theorem g_dup2 (X : Stand p l e R s m args below meth c T locs cells slots) (hx : p.tables.exec = Jvm.exec) (hby : c.code = bs) {v w : Value} (hd : decode bs pc = .ok (.dup2, 1)) (hp : pc + 1 = pc') (hc : v.category = 1) (hc' : w.category = 1) (kk : Go p.tables e below s Q C S (T.setTop (mkF m pc' Ls (v :: w :: v :: w :: st)))) : Go p.tables e below s Q C S (T.setTop (mkF m pc Ls (v :: w :: st))) := by
  subst hp
  exact Go.of (fun _ q => Jvm.Free.XT.dup2 X.here hx rfl (hb hby hd) rfl hc hc' q) kk
theorem g_goto (X : Stand p l e R s m args below meth c T locs cells slots) (hx : p.tables.exec = Jvm.exec) (hby : c.code = bs) {o : Int} (hd : decode bs pc = .ok (.goto o, 3)) (h0 : 0 ≤ (pc : Int) + o) (hp : ((pc : Int) + o).toNat = pc') (kk : Go p.tables e below s Q C S (T.setTop (mkF m pc' Ls st))) : Go p.tables e below s Q C S (T.setTop (mkF m pc Ls st)) :=
  Go.of (fun _ q => XS.goto X.here hx rfl (pc0 := pc) (pc' := pc') rfl (hb hby hd) h0 hp q) kk
theorem g_ifYes (X : Stand p l e R s m args below meth c T locs cells slots) (hx : p.tables.exec = Jvm.exec) (hby : c.code = bs) {cd : ClassFile.Cond} {x : Int32} {o : Int} (hd : decode bs pc = .ok (.ifCond cd o, 3)) (hc : if_icmp.holds cd x 0 = true) (h0 : 0 ≤ (pc : Int) + o) (hp : ((pc : Int) + o).toNat = pc') (kk : Go p.tables e below s Q C S (T.setTop (mkF m pc' Ls st))) : Go p.tables e below s Q C S (T.setTop (mkF m pc Ls (.int x :: st))) :=
  Go.of (fun _ q => XS.ifYes X.here hx rfl (pc0 := pc) (pc' := pc') rfl (hb hby hd) rfl ((if0 _ _).trans hc) h0 hp q) kk
theorem g_ifNo (X : Stand p l e R s m args below meth c T locs cells slots) (hx : p.tables.exec = Jvm.exec) (hby : c.code = bs) {cd : ClassFile.Cond} {x : Int32} {o : Int} (hd : decode bs pc = .ok (.ifCond cd o, 3)) (hc : if_icmp.holds cd x 0 = false) (hp : pc + 3 = pc') (kk : Go p.tables e below s Q C S (T.setTop (mkF m pc' Ls st))) : Go p.tables e below s Q C S (T.setTop (mkF m pc Ls (.int x :: st))) := by
  subst hp
  exact Go.of (fun _ q => XS.ifNo X.here hx rfl (hb hby hd) rfl ((if0 _ _).trans hc) q) kk
theorem g_icmpYes (X : Stand p l e R s m args below meth c T locs cells slots) (hx : p.tables.exec = Jvm.exec) (hby : c.code = bs) {cd : ClassFile.Cond} {x y : Int32} {o : Int} (hd : decode bs pc = .ok (.if_icmp cd o, 3)) (hc : if_icmp.holds cd x y = true) (h0 : 0 ≤ (pc : Int) + o) (hp : ((pc : Int) + o).toNat = pc') (kk : Go p.tables e below s Q C S (T.setTop (mkF m pc' Ls st))) : Go p.tables e below s Q C S (T.setTop (mkF m pc Ls (.int y :: .int x :: st))) :=
  Go.of (fun _ q => XS.icmpYes X.here hx rfl (pc0 := pc) (pc' := pc') rfl (hb hby hd) rfl hc h0 hp q) kk
theorem g_icmpNo (X : Stand p l e R s m args below meth c T locs cells slots) (hx : p.tables.exec = Jvm.exec) (hby : c.code = bs) {cd : ClassFile.Cond} {x y : Int32} {o : Int} (hd : decode bs pc = .ok (.if_icmp cd o, 3)) (hc : if_icmp.holds cd x y = false) (hp : pc + 3 = pc') (kk : Go p.tables e below s Q C S (T.setTop (mkF m pc' Ls st))) : Go p.tables e below s Q C S (T.setTop (mkF m pc Ls (.int y :: .int x :: st))) := by
  subst hp
  exact Go.of (fun _ q => XS.icmpNo X.here hx rfl (hb hby hd) rfl hc q) kk
theorem g_ldcI (X : Stand p l e R s m args below meth c T locs cells slots) (hx : p.tables.exec = Jvm.exec) (hby : c.code = bs) (hZ : Z.Warmed39 s.vm) (hown : s.vm.findClass own = some m.cls) {i : Nat} {z : Int32} (w : (Cond.constant own i z).before a0 Z = true) (hd : decode bs pc = .ok (.ldc i, 2)) (hp : pc + 2 = pc') (kk : Go p.tables e below s Q C S (T.setTop (mkF m pc' Ls (.int z :: st)))) : Go p.tables e below s Q C S (T.setTop (mkF m pc Ls st)) := by
  subst hp
  exact Go.of (fun _ q => X.ldcInt hx hown (mvT hZ w) (g := mkF m pc Ls st) rfl (hb hby hd) _ q) kk
theorem g_ldcwI (X : Stand p l e R s m args below meth c T locs cells slots) (hx : p.tables.exec = Jvm.exec) (hby : c.code = bs) (hZ : Z.Warmed39 s.vm) (hown : s.vm.findClass own = some m.cls) {i : Nat} {z : Int32} (w : (Cond.constant own i z).before a0 Z = true) (hd : decode bs pc = .ok (.ldc_w i, 3)) (hp : pc + 3 = pc') (kk : Go p.tables e below s Q C S (T.setTop (mkF m pc' Ls (.int z :: st)))) : Go p.tables e below s Q C S (T.setTop (mkF m pc Ls st)) := by
  subst hp
  exact Go.of (fun _ q => X.ldcwInt hx hown (mvT hZ w) (g := mkF m pc Ls st) rfl (hb hby hd) _ q) kk
theorem g_ldcL (X : Stand p l e R s m args below meth c T locs cells slots) (hx : p.tables.exec = Jvm.exec) (hby : c.code = bs) (hZ : Z.Warmed39 s.vm) (hown : s.vm.findClass own = some m.cls) {i : Nat} {z : Int64} (w : (Cond.constantLong own i z).before a0 Z = true) (hd : decode bs pc = .ok (.ldc2_w i, 3)) (hp : pc + 3 = pc') (kk : Go p.tables e below s Q C S (T.setTop (mkF m pc' Ls (.long z :: st)))) : Go p.tables e below s Q C S (T.setTop (mkF m pc Ls st)) := by
  subst hp
  exact Go.of (fun _ q => X.ldc2Long hx hown (mvT hZ w) (g := mkF m pc Ls st) rfl (hb hby hd) _ q) kk
theorem g_ldcD (X : Stand p l e R s m args below meth c T locs cells slots) (hx : p.tables.exec = Jvm.exec) (hby : c.code = bs) (hZ : Z.Warmed39 s.vm) (hown : s.vm.findClass own = some m.cls) {i : Nat} {z : UInt64} (w : (Cond.constantDouble own i z).before a0 Z = true) (hd : decode bs pc = .ok (.ldc2_w i, 3)) (hp : pc + 3 = pc') (kk : Go p.tables e below s Q C S (T.setTop (mkF m pc' Ls (.double z :: st)))) : Go p.tables e below s Q C S (T.setTop (mkF m pc Ls st)) := by
  subst hp
  exact Go.of (fun _ q => X.ldc2DoubleC hx hown (mvT hZ w) (g := mkF m pc Ls st) rfl (hb hby hd) _ q) kk
theorem g_getf (X : Stand p l e R s m args below meth c T locs cells slots) (hx : p.tables.exec = Jvm.exec) (hby : c.code = bs) (hZ : Z.Warmed39 s.vm) {R0 O n d host : String} {i : Nat} (hown : s.vm.findClass own = some m.cls) (w : (Cond.fieldLink own i R0 n d).before a0 Z = true ∨ (Cond.fieldLinkNest own i R0 n d host).before a0 Z = true) (via : Via Z R0 O n d) (eT : T.heap = h) {a : Addr} {v : Value} (F : Fld Z h a O n d v) (hd : decode bs pc = .ok (.getfield i, 3)) (hp : pc + 3 = pc') (kk : ∀ T', Stand p l e R s m args below meth c T' locs cells slots → T'.heap = h → Go p.tables e below s Q C S (T'.setTop (mkF m pc' Ls (v :: st)))) : Go p.tables e below s Q C S (T.setTop (mkF m pc Ls (.ref a :: st))) := by
  subst hp
  obtain ⟨T', X', e', q⟩ := getF X hx hZ hown w via eT F (g := mkF m pc Ls (.ref a :: st)) rfl rfl (hb hby hd)
  exact Go.of q (kk T' X' e')
theorem g_putf (X : Stand p l e R s m args below meth c T locs cells slots) (hx : p.tables.exec = Jvm.exec) (hby : c.code = bs) (hZ : Z.Warmed39 s.vm) {R0 O n d host : String} {i : Nat} (hown : s.vm.findClass own = some m.cls) (w : (Cond.fieldLink own i R0 n d).before a0 Z = true ∨ (Cond.fieldLinkNest own i R0 n d host).before a0 Z = true) (via : Via Z R0 O n d) (eT : T.heap = h) {a : Addr} {v old : Value} {K : String} {kk' : Nat} {ty : FieldType} (F : Fld Z h a O n d old) (E : Exa Z h a K) (L : (Cond.lays K O n d).before a0 Z = true ∨ ((Cond.laysFinal K O n d).before a0 Z = true ∧ own = O ∧ meth.name = "<init>")) (wi : (Cond.instantiable K kk').before a0 Z = true) (hty : parseFieldDescriptor d = some ty) (hn : narrow ty v = v) (hf : fits ty v = true) (hd : decode bs pc = .ok (.putfield i, 3)) (hp : pc + 3 = pc')
    (kk : ∀ T' h', Stand p l e R s m args below meth c T' (locs ++ [⟨a, Jvm.RoadKit.slotOf Z O n d⟩]) cells slots → T'.heap = h' → Wr h h' a (Jvm.RoadKit.slotOf Z O n d) v → Fld Z h' a O n d v → Go p.tables e below s Q C S (T'.setTop (mkF m pc' Ls st))) : Go p.tables e below s Q C S (T.setTop (mkF m pc Ls (v :: .ref a :: st))) := by
  subst hp
  obtain ⟨T', h', X', e', W, q⟩ := putF X hx hZ hown w via eT F E L wi hty hn hf (g := mkF m pc Ls (v :: .ref a :: st)) rfl rfl (hb hby hd)
  exact Go.of q (kk T' h' X' e' W (F.same W))
theorem g_new (X : Stand p l e R s m args below meth c T locs cells slots) (hx : p.tables.exec = Jvm.exec) (hby : c.code = bs) (hZ : Z.Warmed39 s.vm) {K : String} {i n : Nat} (hown : s.vm.findClass own = some m.cls) (w : (Cond.classLink own i K).before a0 Z = true) (wi : (Cond.instantiable K n).before a0 Z = true) (wz : (Cond.initialized K).before a0 Z = true) (eT : T.heap = h) (hd : decode bs pc = .ok (.new i, 3)) (hp : pc + 3 = pc') (hc : cells + 1 ≤ R.cells) (hl : slots + n ≤ R.slots)
    (kk : ∀ T' h' b, Stand p l e R s m args below meth c T' locs (cells + 1) (slots + n) → T'.heap = h' → Ext h h' → b = h.size → Exa Z h' b K → (∀ {O nm d : String} {ty : FieldType}, Laid Z a0 K O nm d → parseFieldDescriptor d = some ty → Fld Z h' b O nm d (defaultValue ty)) → Go p.tables e below s Q C S (T'.setTop (mkF m pc' Ls (.ref b :: st)))) : Go p.tables e below s Q C S (T.setTop (mkF m pc Ls st)) := by
  subst hp
  obtain ⟨T', h', X', e', E, A, D, -, q⟩ := newO X hx hZ hown w wi wz eT (g := mkF m pc Ls st) rfl (hb hby hd) hc hl
  exact Go.of q (kk T' h' h.size X' e' E rfl A D)
theorem g_init (X : Stand p l e R s m args below meth c T locs cells slots) (hx : p.tables.exec = Jvm.exec) (hby : c.code = bs) (hZ : Z.Warmed39 s.vm) {i : Nat} (hown : s.vm.findClass own = some m.cls) (w1 : (Cond.methodLink own i Lib.objectInit).before a0 Z = true) (w2 : (Cond.instanceMethod Lib.objectInit).before a0 Z = true) (w3 : (Cond.code Lib.objectInit ⟨#[0xb1]⟩ 1 none).before a0 Z = true) (eT : T.heap = h) {a : Addr} {W : Nat} (hsz : Ls.size = c.maxLocals) (hd : decode bs pc = .ok (.invokespecial i, 3)) (hp : pc + 3 = pc') (hf : 1 ≤ R.frames) (hW : (st.map fun v => v.category).sum = W) (hl : W + 12 ≤ R.locals) (kk : ∀ T', Stand p l e R s m args below meth c T' locs cells slots → T'.heap = h → Go p.tables e below s Q C S (T'.setTop (mkF m pc' Ls st))) : Go p.tables e below s Q C S (T.setTop (mkF m pc Ls (.ref a :: st))) := by
  subst hp
  obtain ⟨T', X', e', q⟩ := initO X hx hZ hown w1 w2 w3 eT (g := mkF m pc Ls (.ref a :: st)) rfl hsz rfl (hb hby hd) hf (W := W) (by show 2 * 0 + _ ≤ _; rw [hW]; omega) hl
  exact Go.of q (kk T' X' e')
end Steps1
end Jvm.OwnKit
namespace Jvm.Pilot.@@N@@
open Jvm Jvm.ClassFile Sem Op Lib Jvm.Free Jvm.Stand Jvm.LawKit Jvm.RoadKit Jvm.OwnKit Bundle Jvm.Pilot.@@N@@.Jvm.D
theorem wi {a0 : Array Value} {Z : State} (hw : ∀ d ∈ tables_1, d.before a0 Z = true) {d : Jvm.Cond} (i : Nat) (h : tables_1[i]? = some d) : d.before a0 Z = true := hw d (List.mem_of_getElem? h)
theorem d3_0 : decode jdk_30_method_1_code 0 = .ok (.aload_n 0, 1) := by decide +kernel
theorem d3_1 : decode jdk_30_method_1_code 1 = .ok (.invokespecial 1, 3) := by decide +kernel
theorem d3_4 : decode jdk_30_method_1_code 4 = .ok (.return_, 1) := by decide +kernel
theorem ef_rm3 (m : MethodId) (x0 : Addr) : entryFrame m #[(.ref x0)] 1 = mkF m 0 #[.val (.ref x0)] [] := by first | (simp [entryFrame, mkF, argsToLocals, Value.category]; done) | rfl
theorem pn_java_lang_Record : plainName "java/lang/Record" = true := by first | (simp [plainName, overriddenIn]; done) | decide +kernel
set_option maxRecDepth 65536 in
set_option maxHeartbeats 40000000 in
theorem rm3 (l : Launch) (Z : State) (a0 : Array Value) (hw : ∀ d ∈ tables_1, d.before a0 Z = true) (a1 : Addr) (h0 : Heap) (n0 : Nat) (Z0 : n0 ≤ h0.size)  :
    Con l Z (⟨"java/lang/Record", "<init>", "()V"⟩ : MethodName) jdk_30_method_1_code 1 none ({ frames := 1, cells := 0, slots := 0, locals := 12 } : Room) #[(.ref a1)] h0 (fun v h L => v = none ∧ Fr n0 L ∧ h = h0) := by
  refine meet (y := (⟨"java/lang/Record", "<init>", "()V"⟩ : MethodName)) (Q := fun v h L => v = none ∧ Fr n0 L ∧ h = h0) (plainFor_of_name pn_java_lang_Record) (fun m => ef_rm3 m a1) ?_
  intro p e s m below meth c T0 hx hby hml hZ hown hnm hret hlk X0 e0
  have N0 := Fr.nil n0
  refine g_aloadN X0 hx hby d3_0 (pc' := 1) rfl rfl rfl ?_
  refine g_init X0 hx hby hZ hown (wi hw 15 rfl) (wi hw 16 rfl) (wi hw 17 rfl) e0 (by rw [hml]; rfl) d3_1 (pc' := 4) rfl (by decide) (W := 0) rfl (by decide) ?_
  intro T1 X1 e1
  refine Go.retV X1 hx hlk hret (hb hby d3_4) rfl (by decide) (by decide) ?_
  exact ⟨rfl, N0, e1⟩
theorem d2_0 : decode prog_30_method_1_code 0 = .ok (.aload_n 0, 1) := by decide +kernel
theorem d2_1 : decode prog_30_method_1_code 1 = .ok (.invokespecial 1, 3) := by decide +kernel
theorem pd_azV : parseMethodDescriptor "()V" = some ⟨[], none⟩ := by decide +kernel
theorem d2_4 : decode prog_30_method_1_code 4 = .ok (.iload_n 1, 1) := by decide +kernel
theorem d2_5 : decode prog_30_method_1_code 5 = .ok (.ifCond .lt 17, 3) := by decide +kernel
theorem d2_8 : decode prog_30_method_1_code 8 = .ok (.iload_n 2, 1) := by decide +kernel
theorem d2_9 : decode prog_30_method_1_code 9 = .ok (.ifCond .lt 13, 3) := by decide +kernel
theorem d2_12 : decode prog_30_method_1_code 12 = .ok (.iload 4, 2) := by decide +kernel
theorem d2_14 : decode prog_30_method_1_code 14 = .ok (.ifCond .lt 8, 3) := by decide +kernel
theorem d2_17 : decode prog_30_method_1_code 17 = .ok (.iload_n 3, 1) := by decide +kernel
theorem d2_18 : decode prog_30_method_1_code 18 = .ok (.iload_n 1, 1) := by decide +kernel
theorem d2_19 : decode prog_30_method_1_code 19 = .ok (.if_icmp .gt 39, 3) := by decide +kernel
theorem d2_58 : decode prog_30_method_1_code 58 = .ok (.aload_n 0, 1) := by decide +kernel
theorem d2_59 : decode prog_30_method_1_code 59 = .ok (.iload_n 1, 1) := by decide +kernel
theorem d2_60 : decode prog_30_method_1_code 60 = .ok (.putfield 33, 3) := by decide +kernel
theorem d2_63 : decode prog_30_method_1_code 63 = .ok (.aload_n 0, 1) := by decide +kernel
theorem d2_64 : decode prog_30_method_1_code 64 = .ok (.iload_n 2, 1) := by decide +kernel
theorem d2_65 : decode prog_30_method_1_code 65 = .ok (.putfield 39, 3) := by decide +kernel
theorem d2_68 : decode prog_30_method_1_code 68 = .ok (.aload_n 0, 1) := by decide +kernel
theorem d2_69 : decode prog_30_method_1_code 69 = .ok (.iload_n 3, 1) := by decide +kernel
theorem d2_70 : decode prog_30_method_1_code 70 = .ok (.putfield 42, 3) := by decide +kernel
theorem d2_73 : decode prog_30_method_1_code 73 = .ok (.aload_n 0, 1) := by decide +kernel
theorem d2_74 : decode prog_30_method_1_code 74 = .ok (.iload 4, 2) := by decide +kernel
theorem d2_76 : decode prog_30_method_1_code 76 = .ok (.putfield 45, 3) := by decide +kernel
theorem d2_79 : decode prog_30_method_1_code 79 = .ok (.return_, 1) := by decide +kernel
theorem ef_rm2 (m : MethodId) (x0 : Addr) (x1 : Int32) (x2 : Int32) (x3 : Int32) (x4 : Int32) : entryFrame m #[(.ref x0), (.int x1), (.int x2), (.int x3), (.int x4)] 5 = mkF m 0 #[.val (.ref x0), .val (.int x1), .val (.int x2), .val (.int x3), .val (.int x4)] [] := by first | (simp [entryFrame, mkF, argsToLocals, Value.category]; done) | rfl
theorem pn_com_example_firstfail_firstfail_pairwise_Model_Pair : plainName "com/example/firstfail/firstfail/pairwise/Model$Pair" = true := by first | (simp [plainName, overriddenIn]; done) | decide +kernel
set_option maxRecDepth 65536 in
set_option maxHeartbeats 40000000 in
theorem rm2 (l : Launch) (Z : State) (a0 : Array Value) (hw : ∀ d ∈ tables_1, d.before a0 Z = true) (a1 : Addr) (i1 : Int32) (i2 : Int32) (i3 : Int32) (i4 : Int32) (h0 : Heap) (n0 : Nat) (Z0 : n0 ≤ h0.size) (P0 : Exa Z h0 a1 "com/example/firstfail/firstfail/pairwise/Model$Pair") (P1 : Fld Z h0 a1 "com/example/firstfail/firstfail/pairwise/Model$Pair" "parameter" "I" (.int (0 : Int32))) (P2 : Fld Z h0 a1 "com/example/firstfail/firstfail/pairwise/Model$Pair" "value" "I" (.int (0 : Int32))) (P3 : Fld Z h0 a1 "com/example/firstfail/firstfail/pairwise/Model$Pair" "otherParameter" "I" (.int (0 : Int32))) (P4 : Fld Z h0 a1 "com/example/firstfail/firstfail/pairwise/Model$Pair" "otherValue" "I" (.int (0 : Int32))) (ge_a1 : n0 ≤ a1) (y1 : 0 ≤ i1.toInt) (y2 : 0 ≤ i2.toInt) (y4 : 0 ≤ i4.toInt) (y3 : i1.toInt < i3.toInt) :
    Con l Z (⟨"com/example/firstfail/firstfail/pairwise/Model$Pair", "<init>", "(IIII)V"⟩ : MethodName) prog_30_method_1_code 5 none ({ frames := 2, cells := 0, slots := 0, locals := 24 } : Room) #[(.ref a1), (.int i1), (.int i2), (.int i3), (.int i4)] h0 (fun v h L => v = none ∧ Fr n0 L ∧ Keep h0 h [a1] ∧ Fld Z h a1 "com/example/firstfail/firstfail/pairwise/Model$Pair" "parameter" "I" (.int i1) ∧ Fld Z h a1 "com/example/firstfail/firstfail/pairwise/Model$Pair" "value" "I" (.int i2) ∧ Fld Z h a1 "com/example/firstfail/firstfail/pairwise/Model$Pair" "otherParameter" "I" (.int i3) ∧ Fld Z h a1 "com/example/firstfail/firstfail/pairwise/Model$Pair" "otherValue" "I" (.int i4)) := by
  refine meet (y := (⟨"com/example/firstfail/firstfail/pairwise/Model$Pair", "<init>", "(IIII)V"⟩ : MethodName)) (Q := fun v h L => v = none ∧ Fr n0 L ∧ Keep h0 h [a1] ∧ Fld Z h a1 "com/example/firstfail/firstfail/pairwise/Model$Pair" "parameter" "I" (.int i1) ∧ Fld Z h a1 "com/example/firstfail/firstfail/pairwise/Model$Pair" "value" "I" (.int i2) ∧ Fld Z h a1 "com/example/firstfail/firstfail/pairwise/Model$Pair" "otherParameter" "I" (.int i3) ∧ Fld Z h a1 "com/example/firstfail/firstfail/pairwise/Model$Pair" "otherValue" "I" (.int i4)) (plainFor_of_name pn_com_example_firstfail_firstfail_pairwise_Model_Pair) (fun m => ef_rm2 m a1 i1 i2 i3 i4) ?_
  intro p e s m below meth c T0 hx hby hml hZ hown hnm hret hlk X0 e0
  have N0 := Fr.nil n0
  have K0 := Keep.refl h0 [a1]
  refine g_aloadN X0 hx hby d2_0 (pc' := 1) rfl rfl rfl ?_
  refine Go.callI X0 hx hZ (y := (⟨"java/lang/Record", "<init>", "()V"⟩ : MethodName)) hown rfl (wi hw 10 rfl) (wi hw 11 rfl) (wi hw 13 rfl) (wi hw 14 rfl) (by decide) e0 (a := a1) (argsL := []) (rest := []) (W := 0) (rm3 l Z a0 hw a1 h0 n0 Z0 ) (hb hby d2_1) (by rw [hml]; rfl) rfl pd_azV rfl rfl (by decide) (by decide) (by decide) (by decide) ?_
  intro v1 T1 L1 X1 hQ1
  obtain ⟨rfl, Nq1, hh1⟩ := hQ1
  have N1 := Fr.app N0 Nq1
  show Go p.tables e below s _ _ _ (T1.setTop (mkF m 4 #[.val (.ref a1), .val (.int i1), .val (.int i2), .val (.int i3), .val (.int i4)] []))
  refine g_iloadN X1 hx hby d2_4 (pc' := 5) rfl rfl ?_
  have hc5 : ¬ (i1.toInt < (0 : Int)) := by omega
  refine g_ifNo X1 hx hby d2_5 (pc' := 8) (flt (show ¬ (i1 < (0 : Int32)) from fun q => hc5 (Int32.lt_iff_toInt_lt.mp q))).1 rfl ?_
  refine g_iloadN X1 hx hby d2_8 (pc' := 9) rfl rfl ?_
  have hc9 : ¬ (i2.toInt < (0 : Int)) := by omega
  refine g_ifNo X1 hx hby d2_9 (pc' := 12) (flt (show ¬ (i2 < (0 : Int32)) from fun q => hc9 (Int32.lt_iff_toInt_lt.mp q))).1 rfl ?_
  refine g_iload X1 hx hby d2_12 (pc' := 14) rfl rfl ?_
  have hc14 : ¬ (i4.toInt < (0 : Int)) := by omega
  refine g_ifNo X1 hx hby d2_14 (pc' := 17) (flt (show ¬ (i4 < (0 : Int32)) from fun q => hc14 (Int32.lt_iff_toInt_lt.mp q))).1 rfl ?_
  refine g_iloadN X1 hx hby d2_17 (pc' := 18) rfl rfl ?_
  refine g_iloadN X1 hx hby d2_18 (pc' := 19) rfl rfl ?_
  have hc19 : i1.toInt < i3.toInt := by omega
  refine g_icmpYes X1 hx hby d2_19 (pc' := 58) (tlt (show i1 < i3 from Int32.lt_iff_toInt_lt.mpr hc19)).2.2.1 (by decide) (by decide) ?_
  refine g_aloadN X1 hx hby d2_58 (pc' := 59) rfl rfl rfl ?_
  refine g_iloadN X1 hx hby d2_59 (pc' := 60) rfl rfl ?_
  refine g_putf X1 hx hby hZ hown (host := "") (Or.inl (wi hw 18 rfl)) Via.refl hh1 P1 P0 (Or.inr ⟨(wi hw 19 rfl), rfl, hnm⟩) (wi hw 6 rfl) (ty := .int) (by decide) rfl rfl d2_60 (pc' := 63) rfl ?_
  intro T2 h2 X2 e2 W2 F2
  refine g_aloadN X2 hx hby d2_63 (pc' := 64) rfl rfl rfl ?_
  refine g_iloadN X2 hx hby d2_64 (pc' := 65) rfl rfl ?_
  have f3 := (P2.other W2 (Or.inr (slot_ne (Or.inr (wi hw 21 rfl)) (Or.inr (wi hw 19 rfl)) (by decide) (t := .int) (t' := .int) (by decide) (by decide))))
  have f4 := P0.wr W2
  refine g_putf X2 hx hby hZ hown (host := "") (Or.inl (wi hw 20 rfl)) Via.refl e2 f3 f4 (Or.inr ⟨(wi hw 21 rfl), rfl, hnm⟩) (wi hw 6 rfl) (ty := .int) (by decide) rfl rfl d2_65 (pc' := 68) rfl ?_
  intro T5 h5 X5 e5 W5 F5
  refine g_aloadN X5 hx hby d2_68 (pc' := 69) rfl rfl rfl ?_
  refine g_iloadN X5 hx hby d2_69 (pc' := 70) rfl rfl ?_
  have f6 := ((P3.other W2 (Or.inr (slot_ne (Or.inr (wi hw 23 rfl)) (Or.inr (wi hw 19 rfl)) (by decide) (t := .int) (t' := .int) (by decide) (by decide)))).other W5 (Or.inr (slot_ne (Or.inr (wi hw 23 rfl)) (Or.inr (wi hw 21 rfl)) (by decide) (t := .int) (t' := .int) (by decide) (by decide))))
  have f7 := f4.wr W5
  refine g_putf X5 hx hby hZ hown (host := "") (Or.inl (wi hw 22 rfl)) Via.refl e5 f6 f7 (Or.inr ⟨(wi hw 23 rfl), rfl, hnm⟩) (wi hw 6 rfl) (ty := .int) (by decide) rfl rfl d2_70 (pc' := 73) rfl ?_
  intro T8 h8 X8 e8 W8 F8
  refine g_aloadN X8 hx hby d2_73 (pc' := 74) rfl rfl rfl ?_
  refine g_iload X8 hx hby d2_74 (pc' := 76) rfl rfl ?_
  have f9 := (((P4.other W2 (Or.inr (slot_ne (Or.inr (wi hw 25 rfl)) (Or.inr (wi hw 19 rfl)) (by decide) (t := .int) (t' := .int) (by decide) (by decide)))).other W5 (Or.inr (slot_ne (Or.inr (wi hw 25 rfl)) (Or.inr (wi hw 21 rfl)) (by decide) (t := .int) (t' := .int) (by decide) (by decide)))).other W8 (Or.inr (slot_ne (Or.inr (wi hw 25 rfl)) (Or.inr (wi hw 23 rfl)) (by decide) (t := .int) (t' := .int) (by decide) (by decide))))
  have f10 := f7.wr W8
  refine g_putf X8 hx hby hZ hown (host := "") (Or.inl (wi hw 24 rfl)) Via.refl e8 f9 f10 (Or.inr ⟨(wi hw 25 rfl), rfl, hnm⟩) (wi hw 6 rfl) (ty := .int) (by decide) rfl rfl d2_76 (pc' := 79) rfl ?_
  intro T11 h11 X11 e11 W11 F11
  have z12 : n0 ≤ h11.size := (Nat.le_trans (Nat.le_trans (Nat.le_trans (Nat.le_trans Z0 (Nat.le_of_eq (Wr.size W2).symm)) (Nat.le_of_eq (Wr.size W5).symm)) (Nat.le_of_eq (Wr.size W8).symm)) (Nat.le_of_eq (Wr.size W11).symm))
  have K13 : Keep h0 h11 [a1] := ((((K0.wr W2 (Or.inl (List.mem_of_getElem? (i := 0) rfl))).wr W5 (Or.inl (List.mem_of_getElem? (i := 0) rfl))).wr W8 (Or.inl (List.mem_of_getElem? (i := 0) rfl))).wr W11 (Or.inl (List.mem_of_getElem? (i := 0) rfl)))
  refine Go.retV X11 hx hlk hret (hb hby d2_79) rfl (by decide) (by decide) ?_
  rw [e11]
  have f14 := (((F2.other W5 (Or.inr (slot_ne (Or.inr (wi hw 19 rfl)) (Or.inr (wi hw 21 rfl)) (by decide) (t := .int) (t' := .int) (by decide) (by decide)))).other W8 (Or.inr (slot_ne (Or.inr (wi hw 19 rfl)) (Or.inr (wi hw 23 rfl)) (by decide) (t := .int) (t' := .int) (by decide) (by decide)))).other W11 (Or.inr (slot_ne (Or.inr (wi hw 19 rfl)) (Or.inr (wi hw 25 rfl)) (by decide) (t := .int) (t' := .int) (by decide) (by decide))))
  have f15 := ((F5.other W8 (Or.inr (slot_ne (Or.inr (wi hw 21 rfl)) (Or.inr (wi hw 23 rfl)) (by decide) (t := .int) (t' := .int) (by decide) (by decide)))).other W11 (Or.inr (slot_ne (Or.inr (wi hw 21 rfl)) (Or.inr (wi hw 25 rfl)) (by decide) (t := .int) (t' := .int) (by decide) (by decide))))
  have f16 := (F8.other W11 (Or.inr (slot_ne (Or.inr (wi hw 23 rfl)) (Or.inr (wi hw 25 rfl)) (by decide) (t := .int) (t' := .int) (by decide) (by decide))))
  exact ⟨rfl, (Fr.snoc X11 (Fr.snoc X8 (Fr.snoc X5 (Fr.snoc X2 N1 ge_a1) ge_a1) ge_a1) ge_a1), K13, f14, f15, f16, F11⟩
theorem d1_0 : decode prog_30_method_2_code 0 = .ok (.iload_n 0, 1) := by decide +kernel
theorem d1_1 : decode prog_30_method_2_code 1 = .ok (.iload_n 2, 1) := by decide +kernel
theorem d1_2 : decode prog_30_method_2_code 2 = .ok (.if_icmp .ge 17, 3) := by decide +kernel
theorem d1_5 : decode prog_30_method_2_code 5 = .ok (.new 34, 3) := by decide +kernel
theorem d1_8 : decode prog_30_method_2_code 8 = .ok (.dup, 1) := by decide +kernel
theorem d1_9 : decode prog_30_method_2_code 9 = .ok (.iload_n 0, 1) := by decide +kernel
theorem d1_10 : decode prog_30_method_2_code 10 = .ok (.iload_n 1, 1) := by decide +kernel
theorem d1_11 : decode prog_30_method_2_code 11 = .ok (.iload_n 2, 1) := by decide +kernel
theorem d1_12 : decode prog_30_method_2_code 12 = .ok (.iload_n 3, 1) := by decide +kernel
theorem d1_13 : decode prog_30_method_2_code 13 = .ok (.invokespecial 48, 3) := by decide +kernel
theorem pd_aIIIIzV : parseMethodDescriptor "(IIII)V" = some ⟨[.int, .int, .int, .int], none⟩ := by decide +kernel
theorem d1_16 : decode prog_30_method_2_code 16 = .ok (.goto 14, 3) := by decide +kernel
theorem d1_30 : decode prog_30_method_2_code 30 = .ok (.areturn, 1) := by decide +kernel
theorem ef_rm1a (m : MethodId) (x0 : Int32) (x1 : Int32) (x2 : Int32) (x3 : Int32) : entryFrame m #[(.int x0), (.int x1), (.int x2), (.int x3)] 4 = mkF m 0 #[.val (.int x0), .val (.int x1), .val (.int x2), .val (.int x3)] [] := by first | (simp [entryFrame, mkF, argsToLocals, Value.category]; done) | rfl
set_option maxRecDepth 65536 in
set_option maxHeartbeats 40000000 in
theorem rm1a (l : Launch) (Z : State) (a0 : Array Value) (hw : ∀ d ∈ tables_1, d.before a0 Z = true) (i1 : Int32) (i2 : Int32) (i3 : Int32) (i4 : Int32) (h0 : Heap) (n0 : Nat) (Z0 : n0 ≤ h0.size) (y1 : 0 ≤ i1.toInt) (y2 : 0 ≤ i2.toInt) (y3 : 0 ≤ i3.toInt) (y4 : 0 ≤ i4.toInt) (y5 : i1.toInt < i3.toInt) :
    Con l Z (⟨"com/example/firstfail/firstfail/pairwise/Model$Pair", "of", "(IIII)Lcom/example/firstfail/firstfail/pairwise/Model$Pair;"⟩ : MethodName) prog_30_method_2_code 4 (some (.object "com/example/firstfail/firstfail/pairwise/Model$Pair")) ({ frames := 3, cells := 1, slots := 4, locals := 41 } : Room) #[(.int i1), (.int i2), (.int i3), (.int i4)] h0 (fun v h L => ∃ (b1 : Addr), v = some (.ref b1) ∧ Fr n0 L ∧ Keep h0 h [] ∧ n0 ≤ b1 ∧ h0.size ≤ b1 ∧ Exa Z h b1 "com/example/firstfail/firstfail/pairwise/Model$Pair" ∧ Fld Z h b1 "com/example/firstfail/firstfail/pairwise/Model$Pair" "parameter" "I" (.int i1) ∧ Fld Z h b1 "com/example/firstfail/firstfail/pairwise/Model$Pair" "value" "I" (.int i2) ∧ Fld Z h b1 "com/example/firstfail/firstfail/pairwise/Model$Pair" "otherParameter" "I" (.int i3) ∧ Fld Z h b1 "com/example/firstfail/firstfail/pairwise/Model$Pair" "otherValue" "I" (.int i4)) := by
  refine meet (y := (⟨"com/example/firstfail/firstfail/pairwise/Model$Pair", "of", "(IIII)Lcom/example/firstfail/firstfail/pairwise/Model$Pair;"⟩ : MethodName)) (Q := fun v h L => ∃ (b1 : Addr), v = some (.ref b1) ∧ Fr n0 L ∧ Keep h0 h [] ∧ n0 ≤ b1 ∧ h0.size ≤ b1 ∧ Exa Z h b1 "com/example/firstfail/firstfail/pairwise/Model$Pair" ∧ Fld Z h b1 "com/example/firstfail/firstfail/pairwise/Model$Pair" "parameter" "I" (.int i1) ∧ Fld Z h b1 "com/example/firstfail/firstfail/pairwise/Model$Pair" "value" "I" (.int i2) ∧ Fld Z h b1 "com/example/firstfail/firstfail/pairwise/Model$Pair" "otherParameter" "I" (.int i3) ∧ Fld Z h b1 "com/example/firstfail/firstfail/pairwise/Model$Pair" "otherValue" "I" (.int i4)) (plainFor_of_name pn_com_example_firstfail_firstfail_pairwise_Model_Pair) (fun m => ef_rm1a m i1 i2 i3 i4) ?_
  intro p e s m below meth c T0 hx hby hml hZ hown hnm hret hlk X0 e0
  have N0 := Fr.nil n0
  have K0 := Keep.refl h0 []
  refine g_iloadN X0 hx hby d1_0 (pc' := 1) rfl rfl ?_
  refine g_iloadN X0 hx hby d1_1 (pc' := 2) rfl rfl ?_
  have hc2 : i1.toInt < i3.toInt := by omega
  refine g_icmpNo X0 hx hby d1_2 (pc' := 5) (tlt (show i1 < i3 from Int32.lt_iff_toInt_lt.mpr hc2)).2.1 rfl ?_
  refine g_new X0 hx hby hZ hown (wi hw 5 rfl) (wi hw 6 rfl) (wi hw 3 rfl) e0 d1_5 (pc' := 8) rfl (by decide) (by decide) ?_
  intro T1 h1 b1 X1 e1 E1 hb1 A1 D1
  have g2 : n0 ≤ b1 := by rw [hb1]; exact Z0
  have s3 : h0.size ≤ b1 := by rw [hb1]; exact K0.1
  have F4 : Fld Z h1 b1 "com/example/firstfail/firstfail/pairwise/Model$Pair" "parameter" "I" (.int (0 : Int32)) := D1 (Or.inr (wi hw 19 rfl)) (ty := .int) (by decide)
  have F5 : Fld Z h1 b1 "com/example/firstfail/firstfail/pairwise/Model$Pair" "value" "I" (.int (0 : Int32)) := D1 (Or.inr (wi hw 21 rfl)) (ty := .int) (by decide)
  have F6 : Fld Z h1 b1 "com/example/firstfail/firstfail/pairwise/Model$Pair" "otherParameter" "I" (.int (0 : Int32)) := D1 (Or.inr (wi hw 23 rfl)) (ty := .int) (by decide)
  have F7 : Fld Z h1 b1 "com/example/firstfail/firstfail/pairwise/Model$Pair" "otherValue" "I" (.int (0 : Int32)) := D1 (Or.inr (wi hw 25 rfl)) (ty := .int) (by decide)
  refine g_dup X1 hx hby d1_8 (pc' := 9) rfl rfl ?_
  refine g_iloadN X1 hx hby d1_9 (pc' := 10) rfl rfl ?_
  refine g_iloadN X1 hx hby d1_10 (pc' := 11) rfl rfl ?_
  refine g_iloadN X1 hx hby d1_11 (pc' := 12) rfl rfl ?_
  refine g_iloadN X1 hx hby d1_12 (pc' := 13) rfl rfl ?_
  refine Go.callI X1 hx hZ (y := (⟨"com/example/firstfail/firstfail/pairwise/Model$Pair", "<init>", "(IIII)V"⟩ : MethodName)) hown rfl (wi hw 7 rfl) (wi hw 8 rfl) (wi hw 3 rfl) (wi hw 9 rfl) (by decide) e1 (a := b1) (argsL := [(.int i1), (.int i2), (.int i3), (.int i4)]) (rest := [(.ref b1)]) (W := 1) (rm2 l Z a0 hw b1 i1 i2 i3 i4 h1 n0 (Nat.le_trans Z0 E1.1) A1 F4 F5 F6 F7 g2 (by omega) (by omega) (by omega) (by omega)) (hb hby d1_13) (by rw [hml]; rfl) rfl pd_aIIIIzV rfl rfl (by decide) (by decide) (by decide) (by decide) ?_
  intro v8 T8 L8 X8 hQ8
  obtain ⟨h8, e8⟩ : ∃ z, T8.heap = z := ⟨_, rfl⟩
  rw [e8] at hQ8
  obtain ⟨rfl, Nq8, Kq8, Fq0_8, Fq1_8, Fq2_8, Fq3_8⟩ := hQ8
  have N8 := Fr.app N0 Nq8
  show Go p.tables e below s _ _ _ (T8.setTop (mkF m 16 #[.val (.int i1), .val (.int i2), .val (.int i3), .val (.int i4)] [(.ref b1)]))
  refine g_goto X8 hx hby d1_16 (pc' := 30) (by decide) (by decide) ?_
  refine Go.retA X8 hx hlk hret rfl rfl (hb hby d1_30) (by decide) (by decide) ?_
  rw [e8]
  have f9 := A1.keep Kq8
  exact ⟨b1, rfl, N8, ((K0.ext E1).trans Kq8 (allS (Or.inr s3) all0)), g2, s3, f9, Fq0_8, Fq1_8, Fq2_8, Fq3_8⟩
theorem d1_19 : decode prog_30_method_2_code 19 = .ok (.new 34, 3) := by decide +kernel
theorem d1_22 : decode prog_30_method_2_code 22 = .ok (.dup, 1) := by decide +kernel
theorem d1_23 : decode prog_30_method_2_code 23 = .ok (.iload_n 2, 1) := by decide +kernel
theorem d1_24 : decode prog_30_method_2_code 24 = .ok (.iload_n 3, 1) := by decide +kernel
theorem d1_25 : decode prog_30_method_2_code 25 = .ok (.iload_n 0, 1) := by decide +kernel
theorem d1_26 : decode prog_30_method_2_code 26 = .ok (.iload_n 1, 1) := by decide +kernel
theorem d1_27 : decode prog_30_method_2_code 27 = .ok (.invokespecial 48, 3) := by decide +kernel
theorem ef_rm1b (m : MethodId) (x0 : Int32) (x1 : Int32) (x2 : Int32) (x3 : Int32) : entryFrame m #[(.int x0), (.int x1), (.int x2), (.int x3)] 4 = mkF m 0 #[.val (.int x0), .val (.int x1), .val (.int x2), .val (.int x3)] [] := by first | (simp [entryFrame, mkF, argsToLocals, Value.category]; done) | rfl
set_option maxRecDepth 65536 in
set_option maxHeartbeats 40000000 in
theorem rm1b (l : Launch) (Z : State) (a0 : Array Value) (hw : ∀ d ∈ tables_1, d.before a0 Z = true) (i1 : Int32) (i2 : Int32) (i3 : Int32) (i4 : Int32) (h0 : Heap) (n0 : Nat) (Z0 : n0 ≤ h0.size) (y1 : 0 ≤ i1.toInt) (y2 : 0 ≤ i2.toInt) (y3 : 0 ≤ i3.toInt) (y4 : 0 ≤ i4.toInt) (y5 : i3.toInt < i1.toInt) :
    Con l Z (⟨"com/example/firstfail/firstfail/pairwise/Model$Pair", "of", "(IIII)Lcom/example/firstfail/firstfail/pairwise/Model$Pair;"⟩ : MethodName) prog_30_method_2_code 4 (some (.object "com/example/firstfail/firstfail/pairwise/Model$Pair")) ({ frames := 3, cells := 1, slots := 4, locals := 41 } : Room) #[(.int i1), (.int i2), (.int i3), (.int i4)] h0 (fun v h L => ∃ (b1 : Addr), v = some (.ref b1) ∧ Fr n0 L ∧ Keep h0 h [] ∧ n0 ≤ b1 ∧ h0.size ≤ b1 ∧ Exa Z h b1 "com/example/firstfail/firstfail/pairwise/Model$Pair" ∧ Fld Z h b1 "com/example/firstfail/firstfail/pairwise/Model$Pair" "parameter" "I" (.int i3) ∧ Fld Z h b1 "com/example/firstfail/firstfail/pairwise/Model$Pair" "value" "I" (.int i4) ∧ Fld Z h b1 "com/example/firstfail/firstfail/pairwise/Model$Pair" "otherParameter" "I" (.int i1) ∧ Fld Z h b1 "com/example/firstfail/firstfail/pairwise/Model$Pair" "otherValue" "I" (.int i2)) := by
  refine meet (y := (⟨"com/example/firstfail/firstfail/pairwise/Model$Pair", "of", "(IIII)Lcom/example/firstfail/firstfail/pairwise/Model$Pair;"⟩ : MethodName)) (Q := fun v h L => ∃ (b1 : Addr), v = some (.ref b1) ∧ Fr n0 L ∧ Keep h0 h [] ∧ n0 ≤ b1 ∧ h0.size ≤ b1 ∧ Exa Z h b1 "com/example/firstfail/firstfail/pairwise/Model$Pair" ∧ Fld Z h b1 "com/example/firstfail/firstfail/pairwise/Model$Pair" "parameter" "I" (.int i3) ∧ Fld Z h b1 "com/example/firstfail/firstfail/pairwise/Model$Pair" "value" "I" (.int i4) ∧ Fld Z h b1 "com/example/firstfail/firstfail/pairwise/Model$Pair" "otherParameter" "I" (.int i1) ∧ Fld Z h b1 "com/example/firstfail/firstfail/pairwise/Model$Pair" "otherValue" "I" (.int i2)) (plainFor_of_name pn_com_example_firstfail_firstfail_pairwise_Model_Pair) (fun m => ef_rm1b m i1 i2 i3 i4) ?_
  intro p e s m below meth c T0 hx hby hml hZ hown hnm hret hlk X0 e0
  have N0 := Fr.nil n0
  have K0 := Keep.refl h0 []
  refine g_iloadN X0 hx hby d1_0 (pc' := 1) rfl rfl ?_
  refine g_iloadN X0 hx hby d1_1 (pc' := 2) rfl rfl ?_
  have hc2 : ¬ (i1.toInt < i3.toInt) := by omega
  refine g_icmpYes X0 hx hby d1_2 (pc' := 19) (flt (show ¬ (i1 < i3) from fun q => hc2 (Int32.lt_iff_toInt_lt.mp q))).2.1 (by decide) (by decide) ?_
  refine g_new X0 hx hby hZ hown (wi hw 5 rfl) (wi hw 6 rfl) (wi hw 3 rfl) e0 d1_19 (pc' := 22) rfl (by decide) (by decide) ?_
  intro T1 h1 b1 X1 e1 E1 hb1 A1 D1
  have g2 : n0 ≤ b1 := by rw [hb1]; exact Z0
  have s3 : h0.size ≤ b1 := by rw [hb1]; exact K0.1
  have F4 : Fld Z h1 b1 "com/example/firstfail/firstfail/pairwise/Model$Pair" "parameter" "I" (.int (0 : Int32)) := D1 (Or.inr (wi hw 19 rfl)) (ty := .int) (by decide)
  have F5 : Fld Z h1 b1 "com/example/firstfail/firstfail/pairwise/Model$Pair" "value" "I" (.int (0 : Int32)) := D1 (Or.inr (wi hw 21 rfl)) (ty := .int) (by decide)
  have F6 : Fld Z h1 b1 "com/example/firstfail/firstfail/pairwise/Model$Pair" "otherParameter" "I" (.int (0 : Int32)) := D1 (Or.inr (wi hw 23 rfl)) (ty := .int) (by decide)
  have F7 : Fld Z h1 b1 "com/example/firstfail/firstfail/pairwise/Model$Pair" "otherValue" "I" (.int (0 : Int32)) := D1 (Or.inr (wi hw 25 rfl)) (ty := .int) (by decide)
  refine g_dup X1 hx hby d1_22 (pc' := 23) rfl rfl ?_
  refine g_iloadN X1 hx hby d1_23 (pc' := 24) rfl rfl ?_
  refine g_iloadN X1 hx hby d1_24 (pc' := 25) rfl rfl ?_
  refine g_iloadN X1 hx hby d1_25 (pc' := 26) rfl rfl ?_
  refine g_iloadN X1 hx hby d1_26 (pc' := 27) rfl rfl ?_
  refine Go.callI X1 hx hZ (y := (⟨"com/example/firstfail/firstfail/pairwise/Model$Pair", "<init>", "(IIII)V"⟩ : MethodName)) hown rfl (wi hw 7 rfl) (wi hw 8 rfl) (wi hw 3 rfl) (wi hw 9 rfl) (by decide) e1 (a := b1) (argsL := [(.int i3), (.int i4), (.int i1), (.int i2)]) (rest := [(.ref b1)]) (W := 1) (rm2 l Z a0 hw b1 i3 i4 i1 i2 h1 n0 (Nat.le_trans Z0 E1.1) A1 F4 F5 F6 F7 g2 (by omega) (by omega) (by omega) (by omega)) (hb hby d1_27) (by rw [hml]; rfl) rfl pd_aIIIIzV rfl rfl (by decide) (by decide) (by decide) (by decide) ?_
  intro v8 T8 L8 X8 hQ8
  obtain ⟨h8, e8⟩ : ∃ z, T8.heap = z := ⟨_, rfl⟩
  rw [e8] at hQ8
  obtain ⟨rfl, Nq8, Kq8, Fq0_8, Fq1_8, Fq2_8, Fq3_8⟩ := hQ8
  have N8 := Fr.app N0 Nq8
  show Go p.tables e below s _ _ _ (T8.setTop (mkF m 30 #[.val (.int i1), .val (.int i2), .val (.int i3), .val (.int i4)] [(.ref b1)]))
  refine Go.retA X8 hx hlk hret rfl rfl (hb hby d1_30) (by decide) (by decide) ?_
  rw [e8]
  have f9 := A1.keep Kq8
  exact ⟨b1, rfl, N8, ((K0.ext E1).trans Kq8 (allS (Or.inr s3) all0)), g2, s3, f9, Fq0_8, Fq1_8, Fq2_8, Fq3_8⟩
theorem d5_0 : decode jdk_29_method_69_code 0 = .ok (.iload_n 0, 1) := by decide +kernel
theorem d5_1 : decode jdk_29_method_69_code 1 = .ok (.iload_n 1, 1) := by decide +kernel
theorem d5_2 : decode jdk_29_method_69_code 2 = .ok (.if_icmp .gt 7, 3) := by decide +kernel
theorem d5_5 : decode jdk_29_method_69_code 5 = .ok (.iload_n 0, 1) := by decide +kernel
theorem d5_6 : decode jdk_29_method_69_code 6 = .ok (.goto 4, 3) := by decide +kernel
theorem d5_10 : decode jdk_29_method_69_code 10 = .ok (.ireturn, 1) := by decide +kernel
theorem ef_rm5a (m : MethodId) (x0 : Int32) (x1 : Int32) : entryFrame m #[(.int x0), (.int x1)] 2 = mkF m 0 #[.val (.int x0), .val (.int x1)] [] := by first | (simp [entryFrame, mkF, argsToLocals, Value.category]; done) | rfl
set_option maxRecDepth 65536 in
set_option maxHeartbeats 40000000 in
theorem rm5a (l : Launch) (Z : State) (a0 : Array Value) (hw : ∀ d ∈ tables_1, d.before a0 Z = true) (i1 : Int32) (i2 : Int32) (h0 : Heap) (n0 : Nat) (Z0 : n0 ≤ h0.size) (y1 : i1.toInt < i2.toInt) :
    Con l Z (⟨"java/lang/Math", "min", "(II)I"⟩ : MethodName) jdk_29_method_69_code 2 (some .int) ({ frames := 0, cells := 0, slots := 0, locals := 0 } : Room) #[(.int i1), (.int i2)] h0 (fun v h L => v = some (.int i1) ∧ Fr n0 L ∧ h = h0) := by
  refine meet (y := (⟨"java/lang/Math", "min", "(II)I"⟩ : MethodName)) (Q := fun v h L => v = some (.int i1) ∧ Fr n0 L ∧ h = h0) (Jvm.Free.JP.mathPlain rfl (by decide +kernel)) (fun m => ef_rm5a m i1 i2) ?_
  intro p e s m below meth c T0 hx hby hml hZ hown hnm hret hlk X0 e0
  have N0 := Fr.nil n0
  refine g_iloadN X0 hx hby d5_0 (pc' := 1) rfl rfl ?_
  refine g_iloadN X0 hx hby d5_1 (pc' := 2) rfl rfl ?_
  have hc2 : ¬ (i2.toInt < i1.toInt) := by omega
  refine g_icmpNo X0 hx hby d5_2 (pc' := 5) (flt (show ¬ (i2 < i1) from fun q => hc2 (Int32.lt_iff_toInt_lt.mp q))).2.2.1 rfl ?_
  refine g_iloadN X0 hx hby d5_5 (pc' := 6) rfl rfl ?_
  refine g_goto X0 hx hby d5_6 (pc' := 10) (by decide) (by decide) ?_
  refine Go.retI X0 hx hlk hret (hb hby d5_10) (by decide) (by decide) ?_
  exact ⟨rfl, N0, e0⟩
theorem d5_9 : decode jdk_29_method_69_code 9 = .ok (.iload_n 1, 1) := by decide +kernel
theorem ef_rm5b (m : MethodId) (x0 : Int32) (x1 : Int32) : entryFrame m #[(.int x0), (.int x1)] 2 = mkF m 0 #[.val (.int x0), .val (.int x1)] [] := by first | (simp [entryFrame, mkF, argsToLocals, Value.category]; done) | rfl
set_option maxRecDepth 65536 in
set_option maxHeartbeats 40000000 in
theorem rm5b (l : Launch) (Z : State) (a0 : Array Value) (hw : ∀ d ∈ tables_1, d.before a0 Z = true) (i1 : Int32) (i2 : Int32) (h0 : Heap) (n0 : Nat) (Z0 : n0 ≤ h0.size) (y1 : i2.toInt < i1.toInt) :
    Con l Z (⟨"java/lang/Math", "min", "(II)I"⟩ : MethodName) jdk_29_method_69_code 2 (some .int) ({ frames := 0, cells := 0, slots := 0, locals := 0 } : Room) #[(.int i1), (.int i2)] h0 (fun v h L => v = some (.int i2) ∧ Fr n0 L ∧ h = h0) := by
  refine meet (y := (⟨"java/lang/Math", "min", "(II)I"⟩ : MethodName)) (Q := fun v h L => v = some (.int i2) ∧ Fr n0 L ∧ h = h0) (Jvm.Free.JP.mathPlain rfl (by decide +kernel)) (fun m => ef_rm5b m i1 i2) ?_
  intro p e s m below meth c T0 hx hby hml hZ hown hnm hret hlk X0 e0
  have N0 := Fr.nil n0
  refine g_iloadN X0 hx hby d5_0 (pc' := 1) rfl rfl ?_
  refine g_iloadN X0 hx hby d5_1 (pc' := 2) rfl rfl ?_
  have hc2 : i2.toInt < i1.toInt := by omega
  refine g_icmpYes X0 hx hby d5_2 (pc' := 9) (tlt (show i2 < i1 from Int32.lt_iff_toInt_lt.mpr hc2)).2.2.1 (by decide) (by decide) ?_
  refine g_iloadN X0 hx hby d5_9 (pc' := 10) rfl rfl ?_
  refine Go.retI X0 hx hlk hret (hb hby d5_10) (by decide) (by decide) ?_
  exact ⟨rfl, N0, e0⟩
theorem d6_0 : decode jdk_29_method_65_code 0 = .ok (.iload_n 0, 1) := by decide +kernel
theorem d6_1 : decode jdk_29_method_65_code 1 = .ok (.iload_n 1, 1) := by decide +kernel
theorem d6_2 : decode jdk_29_method_65_code 2 = .ok (.if_icmp .lt 7, 3) := by decide +kernel
theorem d6_9 : decode jdk_29_method_65_code 9 = .ok (.iload_n 1, 1) := by decide +kernel
theorem d6_10 : decode jdk_29_method_65_code 10 = .ok (.ireturn, 1) := by decide +kernel
theorem ef_rm6a (m : MethodId) (x0 : Int32) (x1 : Int32) : entryFrame m #[(.int x0), (.int x1)] 2 = mkF m 0 #[.val (.int x0), .val (.int x1)] [] := by first | (simp [entryFrame, mkF, argsToLocals, Value.category]; done) | rfl
set_option maxRecDepth 65536 in
set_option maxHeartbeats 40000000 in
theorem rm6a (l : Launch) (Z : State) (a0 : Array Value) (hw : ∀ d ∈ tables_1, d.before a0 Z = true) (i1 : Int32) (i2 : Int32) (h0 : Heap) (n0 : Nat) (Z0 : n0 ≤ h0.size) (y1 : i1.toInt < i2.toInt) :
    Con l Z (⟨"java/lang/Math", "max", "(II)I"⟩ : MethodName) jdk_29_method_65_code 2 (some .int) ({ frames := 0, cells := 0, slots := 0, locals := 0 } : Room) #[(.int i1), (.int i2)] h0 (fun v h L => v = some (.int i2) ∧ Fr n0 L ∧ h = h0) := by
  refine meet (y := (⟨"java/lang/Math", "max", "(II)I"⟩ : MethodName)) (Q := fun v h L => v = some (.int i2) ∧ Fr n0 L ∧ h = h0) (Jvm.Free.JP.mathPlain rfl (by decide +kernel)) (fun m => ef_rm6a m i1 i2) ?_
  intro p e s m below meth c T0 hx hby hml hZ hown hnm hret hlk X0 e0
  have N0 := Fr.nil n0
  refine g_iloadN X0 hx hby d6_0 (pc' := 1) rfl rfl ?_
  refine g_iloadN X0 hx hby d6_1 (pc' := 2) rfl rfl ?_
  have hc2 : i1.toInt < i2.toInt := by omega
  refine g_icmpYes X0 hx hby d6_2 (pc' := 9) (tlt (show i1 < i2 from Int32.lt_iff_toInt_lt.mpr hc2)).1 (by decide) (by decide) ?_
  refine g_iloadN X0 hx hby d6_9 (pc' := 10) rfl rfl ?_
  refine Go.retI X0 hx hlk hret (hb hby d6_10) (by decide) (by decide) ?_
  exact ⟨rfl, N0, e0⟩
theorem d6_5 : decode jdk_29_method_65_code 5 = .ok (.iload_n 0, 1) := by decide +kernel
theorem d6_6 : decode jdk_29_method_65_code 6 = .ok (.goto 4, 3) := by decide +kernel
theorem ef_rm6b (m : MethodId) (x0 : Int32) (x1 : Int32) : entryFrame m #[(.int x0), (.int x1)] 2 = mkF m 0 #[.val (.int x0), .val (.int x1)] [] := by first | (simp [entryFrame, mkF, argsToLocals, Value.category]; done) | rfl
set_option maxRecDepth 65536 in
set_option maxHeartbeats 40000000 in
theorem rm6b (l : Launch) (Z : State) (a0 : Array Value) (hw : ∀ d ∈ tables_1, d.before a0 Z = true) (i1 : Int32) (i2 : Int32) (h0 : Heap) (n0 : Nat) (Z0 : n0 ≤ h0.size) (y1 : i2.toInt < i1.toInt) :
    Con l Z (⟨"java/lang/Math", "max", "(II)I"⟩ : MethodName) jdk_29_method_65_code 2 (some .int) ({ frames := 0, cells := 0, slots := 0, locals := 0 } : Room) #[(.int i1), (.int i2)] h0 (fun v h L => v = some (.int i1) ∧ Fr n0 L ∧ h = h0) := by
  refine meet (y := (⟨"java/lang/Math", "max", "(II)I"⟩ : MethodName)) (Q := fun v h L => v = some (.int i1) ∧ Fr n0 L ∧ h = h0) (Jvm.Free.JP.mathPlain rfl (by decide +kernel)) (fun m => ef_rm6b m i1 i2) ?_
  intro p e s m below meth c T0 hx hby hml hZ hown hnm hret hlk X0 e0
  have N0 := Fr.nil n0
  refine g_iloadN X0 hx hby d6_0 (pc' := 1) rfl rfl ?_
  refine g_iloadN X0 hx hby d6_1 (pc' := 2) rfl rfl ?_
  have hc2 : ¬ (i1.toInt < i2.toInt) := by omega
  refine g_icmpNo X0 hx hby d6_2 (pc' := 5) (flt (show ¬ (i1 < i2) from fun q => hc2 (Int32.lt_iff_toInt_lt.mp q))).1 rfl ?_
  refine g_iloadN X0 hx hby d6_5 (pc' := 6) rfl rfl ?_
  refine g_goto X0 hx hby d6_6 (pc' := 10) (by decide) (by decide) ?_
  refine Go.retI X0 hx hlk hret (hb hby d6_10) (by decide) (by decide) ?_
  exact ⟨rfl, N0, e0⟩
theorem d8_0 : decode prog_30_method_7_code 0 = .ok (.aload_n 0, 1) := by decide +kernel
theorem d8_1 : decode prog_30_method_7_code 1 = .ok (.getfield 33, 3) := by decide +kernel
theorem d8_4 : decode prog_30_method_7_code 4 = .ok (.ireturn, 1) := by decide +kernel
theorem ef_rm8 (m : MethodId) (x0 : Addr) : entryFrame m #[(.ref x0)] 1 = mkF m 0 #[.val (.ref x0)] [] := by first | (simp [entryFrame, mkF, argsToLocals, Value.category]; done) | rfl
set_option maxRecDepth 65536 in
set_option maxHeartbeats 40000000 in
theorem rm8 (l : Launch) (Z : State) (a0 : Array Value) (hw : ∀ d ∈ tables_1, d.before a0 Z = true) (a1 : Addr) (t1 : Int32) (h0 : Heap) (n0 : Nat) (Z0 : n0 ≤ h0.size) (P0 : Fld Z h0 a1 "com/example/firstfail/firstfail/pairwise/Model$Pair" "parameter" "I" (.int t1)) :
    Con l Z (⟨"com/example/firstfail/firstfail/pairwise/Model$Pair", "parameter", "()I"⟩ : MethodName) prog_30_method_7_code 1 (some .int) ({ frames := 0, cells := 0, slots := 0, locals := 0 } : Room) #[(.ref a1)] h0 (fun v h L => v = some (.int t1) ∧ Fr n0 L ∧ h = h0) := by
  refine meet (y := (⟨"com/example/firstfail/firstfail/pairwise/Model$Pair", "parameter", "()I"⟩ : MethodName)) (Q := fun v h L => v = some (.int t1) ∧ Fr n0 L ∧ h = h0) (plainFor_of_name pn_com_example_firstfail_firstfail_pairwise_Model_Pair) (fun m => ef_rm8 m a1) ?_
  intro p e s m below meth c T0 hx hby hml hZ hown hnm hret hlk X0 e0
  have N0 := Fr.nil n0
  refine g_aloadN X0 hx hby d8_0 (pc' := 1) rfl rfl rfl ?_
  refine g_getf X0 hx hby hZ hown (host := "") (Or.inl (wi hw 18 rfl)) Via.refl e0 P0 d8_1 (pc' := 4) rfl ?_
  intro T1 X1 e1
  refine Go.retI X1 hx hlk hret (hb hby d8_4) (by decide) (by decide) ?_
  exact ⟨rfl, N0, e1⟩
theorem d9_0 : decode prog_30_method_8_code 0 = .ok (.aload_n 0, 1) := by decide +kernel
theorem d9_1 : decode prog_30_method_8_code 1 = .ok (.getfield 39, 3) := by decide +kernel
theorem d9_4 : decode prog_30_method_8_code 4 = .ok (.ireturn, 1) := by decide +kernel
theorem ef_rm9 (m : MethodId) (x0 : Addr) : entryFrame m #[(.ref x0)] 1 = mkF m 0 #[.val (.ref x0)] [] := by first | (simp [entryFrame, mkF, argsToLocals, Value.category]; done) | rfl
set_option maxRecDepth 65536 in
set_option maxHeartbeats 40000000 in
theorem rm9 (l : Launch) (Z : State) (a0 : Array Value) (hw : ∀ d ∈ tables_1, d.before a0 Z = true) (a1 : Addr) (t1 : Int32) (h0 : Heap) (n0 : Nat) (Z0 : n0 ≤ h0.size) (P0 : Fld Z h0 a1 "com/example/firstfail/firstfail/pairwise/Model$Pair" "value" "I" (.int t1)) :
    Con l Z (⟨"com/example/firstfail/firstfail/pairwise/Model$Pair", "value", "()I"⟩ : MethodName) prog_30_method_8_code 1 (some .int) ({ frames := 0, cells := 0, slots := 0, locals := 0 } : Room) #[(.ref a1)] h0 (fun v h L => v = some (.int t1) ∧ Fr n0 L ∧ h = h0) := by
  refine meet (y := (⟨"com/example/firstfail/firstfail/pairwise/Model$Pair", "value", "()I"⟩ : MethodName)) (Q := fun v h L => v = some (.int t1) ∧ Fr n0 L ∧ h = h0) (plainFor_of_name pn_com_example_firstfail_firstfail_pairwise_Model_Pair) (fun m => ef_rm9 m a1) ?_
  intro p e s m below meth c T0 hx hby hml hZ hown hnm hret hlk X0 e0
  have N0 := Fr.nil n0
  refine g_aloadN X0 hx hby d9_0 (pc' := 1) rfl rfl rfl ?_
  refine g_getf X0 hx hby hZ hown (host := "") (Or.inl (wi hw 20 rfl)) Via.refl e0 P0 d9_1 (pc' := 4) rfl ?_
  intro T1 X1 e1
  refine Go.retI X1 hx hlk hret (hb hby d9_4) (by decide) (by decide) ?_
  exact ⟨rfl, N0, e1⟩
theorem d10_0 : decode prog_30_method_9_code 0 = .ok (.aload_n 0, 1) := by decide +kernel
theorem d10_1 : decode prog_30_method_9_code 1 = .ok (.getfield 42, 3) := by decide +kernel
theorem d10_4 : decode prog_30_method_9_code 4 = .ok (.ireturn, 1) := by decide +kernel
theorem ef_rm10 (m : MethodId) (x0 : Addr) : entryFrame m #[(.ref x0)] 1 = mkF m 0 #[.val (.ref x0)] [] := by first | (simp [entryFrame, mkF, argsToLocals, Value.category]; done) | rfl
set_option maxRecDepth 65536 in
set_option maxHeartbeats 40000000 in
theorem rm10 (l : Launch) (Z : State) (a0 : Array Value) (hw : ∀ d ∈ tables_1, d.before a0 Z = true) (a1 : Addr) (t1 : Int32) (h0 : Heap) (n0 : Nat) (Z0 : n0 ≤ h0.size) (P0 : Fld Z h0 a1 "com/example/firstfail/firstfail/pairwise/Model$Pair" "otherParameter" "I" (.int t1)) :
    Con l Z (⟨"com/example/firstfail/firstfail/pairwise/Model$Pair", "otherParameter", "()I"⟩ : MethodName) prog_30_method_9_code 1 (some .int) ({ frames := 0, cells := 0, slots := 0, locals := 0 } : Room) #[(.ref a1)] h0 (fun v h L => v = some (.int t1) ∧ Fr n0 L ∧ h = h0) := by
  refine meet (y := (⟨"com/example/firstfail/firstfail/pairwise/Model$Pair", "otherParameter", "()I"⟩ : MethodName)) (Q := fun v h L => v = some (.int t1) ∧ Fr n0 L ∧ h = h0) (plainFor_of_name pn_com_example_firstfail_firstfail_pairwise_Model_Pair) (fun m => ef_rm10 m a1) ?_
  intro p e s m below meth c T0 hx hby hml hZ hown hnm hret hlk X0 e0
  have N0 := Fr.nil n0
  refine g_aloadN X0 hx hby d10_0 (pc' := 1) rfl rfl rfl ?_
  refine g_getf X0 hx hby hZ hown (host := "") (Or.inl (wi hw 22 rfl)) Via.refl e0 P0 d10_1 (pc' := 4) rfl ?_
  intro T1 X1 e1
  refine Go.retI X1 hx hlk hret (hb hby d10_4) (by decide) (by decide) ?_
  exact ⟨rfl, N0, e1⟩
theorem d11_0 : decode prog_30_method_10_code 0 = .ok (.aload_n 0, 1) := by decide +kernel
theorem d11_1 : decode prog_30_method_10_code 1 = .ok (.getfield 45, 3) := by decide +kernel
theorem d11_4 : decode prog_30_method_10_code 4 = .ok (.ireturn, 1) := by decide +kernel
theorem ef_rm11 (m : MethodId) (x0 : Addr) : entryFrame m #[(.ref x0)] 1 = mkF m 0 #[.val (.ref x0)] [] := by first | (simp [entryFrame, mkF, argsToLocals, Value.category]; done) | rfl
set_option maxRecDepth 65536 in
set_option maxHeartbeats 40000000 in
theorem rm11 (l : Launch) (Z : State) (a0 : Array Value) (hw : ∀ d ∈ tables_1, d.before a0 Z = true) (a1 : Addr) (t1 : Int32) (h0 : Heap) (n0 : Nat) (Z0 : n0 ≤ h0.size) (P0 : Fld Z h0 a1 "com/example/firstfail/firstfail/pairwise/Model$Pair" "otherValue" "I" (.int t1)) :
    Con l Z (⟨"com/example/firstfail/firstfail/pairwise/Model$Pair", "otherValue", "()I"⟩ : MethodName) prog_30_method_10_code 1 (some .int) ({ frames := 0, cells := 0, slots := 0, locals := 0 } : Room) #[(.ref a1)] h0 (fun v h L => v = some (.int t1) ∧ Fr n0 L ∧ h = h0) := by
  refine meet (y := (⟨"com/example/firstfail/firstfail/pairwise/Model$Pair", "otherValue", "()I"⟩ : MethodName)) (Q := fun v h L => v = some (.int t1) ∧ Fr n0 L ∧ h = h0) (plainFor_of_name pn_com_example_firstfail_firstfail_pairwise_Model_Pair) (fun m => ef_rm11 m a1) ?_
  intro p e s m below meth c T0 hx hby hml hZ hown hnm hret hlk X0 e0
  have N0 := Fr.nil n0
  refine g_aloadN X0 hx hby d11_0 (pc' := 1) rfl rfl rfl ?_
  refine g_getf X0 hx hby hZ hown (host := "") (Or.inl (wi hw 24 rfl)) Via.refl e0 P0 d11_1 (pc' := 4) rfl ?_
  intro T1 X1 e1
  refine Go.retI X1 hx hlk hret (hb hby d11_4) (by decide) (by decide) ?_
  exact ⟨rfl, N0, e1⟩
theorem d7_0 : decode method_2_code 0 = .ok (.aload_n 0, 1) := by decide +kernel
theorem d7_1 : decode method_2_code 1 = .ok (.invokevirtual 7, 3) := by decide +kernel
theorem pd_azI : parseMethodDescriptor "()I" = some ⟨[], some .int⟩ := by decide +kernel
theorem d7_4 : decode method_2_code 4 = .ok (.iload_n 1, 1) := by decide +kernel
theorem d7_5 : decode method_2_code 5 = .ok (.if_icmp .ne 32, 3) := by decide +kernel
theorem d7_8 : decode method_2_code 8 = .ok (.aload_n 0, 1) := by decide +kernel
theorem d7_9 : decode method_2_code 9 = .ok (.invokevirtual 13, 3) := by decide +kernel
theorem d7_12 : decode method_2_code 12 = .ok (.iload_n 2, 1) := by decide +kernel
theorem d7_13 : decode method_2_code 13 = .ok (.if_icmp .ne 24, 3) := by decide +kernel
theorem d7_16 : decode method_2_code 16 = .ok (.aload_n 0, 1) := by decide +kernel
theorem d7_17 : decode method_2_code 17 = .ok (.invokevirtual 16, 3) := by decide +kernel
theorem d7_20 : decode method_2_code 20 = .ok (.iload_n 3, 1) := by decide +kernel
theorem d7_21 : decode method_2_code 21 = .ok (.if_icmp .ne 16, 3) := by decide +kernel
theorem d7_24 : decode method_2_code 24 = .ok (.aload_n 0, 1) := by decide +kernel
theorem d7_25 : decode method_2_code 25 = .ok (.invokevirtual 19, 3) := by decide +kernel
theorem d7_28 : decode method_2_code 28 = .ok (.iload 4, 2) := by decide +kernel
theorem d7_30 : decode method_2_code 30 = .ok (.if_icmp .ne 7, 3) := by decide +kernel
theorem d7_33 : decode method_2_code 33 = .ok (.iconst 1, 1) := by decide +kernel
theorem d7_34 : decode method_2_code 34 = .ok (.goto 4, 3) := by decide +kernel
theorem d7_38 : decode method_2_code 38 = .ok (.ireturn, 1) := by decide +kernel
theorem ef_rm7 (m : MethodId) (x0 : Addr) (x1 : Int32) (x2 : Int32) (x3 : Int32) (x4 : Int32) : entryFrame m #[(.ref x0), (.int x1), (.int x2), (.int x3), (.int x4)] 5 = mkF m 0 #[.val (.ref x0), .val (.int x1), .val (.int x2), .val (.int x3), .val (.int x4)] [] := by first | (simp [entryFrame, mkF, argsToLocals, Value.category]; done) | rfl
theorem pn_com_example_firstfail_firstfail_pairwise_PairOfPinLaw : plainName "com/example/firstfail/firstfail/pairwise/PairOfPinLaw" = true := by first | (simp [plainName, overriddenIn]; done) | decide +kernel
set_option maxRecDepth 65536 in
set_option maxHeartbeats 40000000 in
theorem rm7 (l : Launch) (Z : State) (a0 : Array Value) (hw : ∀ d ∈ tables_1, d.before a0 Z = true) (a1 : Addr) (i1 : Int32) (i2 : Int32) (i3 : Int32) (i4 : Int32) (h0 : Heap) (n0 : Nat) (Z0 : n0 ≤ h0.size) (P0 : Exa Z h0 a1 "com/example/firstfail/firstfail/pairwise/Model$Pair") (P1 : Fld Z h0 a1 "com/example/firstfail/firstfail/pairwise/Model$Pair" "parameter" "I" (.int i1)) (P2 : Fld Z h0 a1 "com/example/firstfail/firstfail/pairwise/Model$Pair" "value" "I" (.int i2)) (P3 : Fld Z h0 a1 "com/example/firstfail/firstfail/pairwise/Model$Pair" "otherParameter" "I" (.int i3)) (P4 : Fld Z h0 a1 "com/example/firstfail/firstfail/pairwise/Model$Pair" "otherValue" "I" (.int i4)) :
    Con l Z (⟨"com/example/firstfail/firstfail/pairwise/PairOfPinLaw", "is", "(Lcom/example/firstfail/firstfail/pairwise/Model$Pair;IIII)Z"⟩ : MethodName) method_2_code 5 (some .boolean) ({ frames := 1, cells := 0, slots := 0, locals := 12 } : Room) #[(.ref a1), (.int i1), (.int i2), (.int i3), (.int i4)] h0 (fun v h L => v = some (.int (1 : Int32)) ∧ Fr n0 L ∧ h = h0) := by
  refine meet (y := (⟨"com/example/firstfail/firstfail/pairwise/PairOfPinLaw", "is", "(Lcom/example/firstfail/firstfail/pairwise/Model$Pair;IIII)Z"⟩ : MethodName)) (Q := fun v h L => v = some (.int (1 : Int32)) ∧ Fr n0 L ∧ h = h0) (plainFor_of_name pn_com_example_firstfail_firstfail_pairwise_PairOfPinLaw) (fun m => ef_rm7 m a1 i1 i2 i3 i4) ?_
  intro p e s m below meth c T0 hx hby hml hZ hown hnm hret hlk X0 e0
  have N0 := Fr.nil n0
  refine g_aloadN X0 hx hby d7_0 (pc' := 1) rfl rfl rfl ?_
  refine Go.callV X0 hx hZ (y := (⟨"com/example/firstfail/firstfail/pairwise/Model$Pair", "parameter", "()I"⟩ : MethodName)) (z := (⟨"com/example/firstfail/firstfail/pairwise/Model$Pair", "parameter", "()I"⟩ : MethodName)) hown (wi hw 37 rfl) (wi hw 38 rfl) (notFace_of_selects (args := #[]) (mvT hZ (wi hw 40 rfl))) (wi hw 40 rfl) (wi hw 39 rfl) (wi hw 3 rfl) (wi hw 41 rfl) (by decide) e0 (a := a1) (argsL := []) (rest := []) (W := 0) P0 (rm8 l Z a0 hw a1 i1 h0 n0 Z0 P1) (hb hby d7_1) (by rw [hml]; rfl) rfl pd_azI rfl rfl (by decide) (by decide) (by decide) (by decide) ?_
  intro v1 T1 L1 X1 hQ1
  obtain ⟨rfl, Nq1, hh1⟩ := hQ1
  have N1 := Fr.app N0 Nq1
  show Go p.tables e below s _ _ _ (T1.setTop (mkF m 4 #[.val (.ref a1), .val (.int i1), .val (.int i2), .val (.int i3), .val (.int i4)] [(.int i1)]))
  refine g_iloadN X1 hx hby d7_4 (pc' := 5) rfl rfl ?_
  have hc5 : i1.toInt = i1.toInt := rfl
  refine g_icmpNo X1 hx hby d7_5 (pc' := 8) (teq (show i1 = i1 from Int32.toInt_inj.mp hc5)).2 rfl ?_
  refine g_aloadN X1 hx hby d7_8 (pc' := 9) rfl rfl rfl ?_
  refine Go.callV X1 hx hZ (y := (⟨"com/example/firstfail/firstfail/pairwise/Model$Pair", "value", "()I"⟩ : MethodName)) (z := (⟨"com/example/firstfail/firstfail/pairwise/Model$Pair", "value", "()I"⟩ : MethodName)) hown (wi hw 42 rfl) (wi hw 43 rfl) (notFace_of_selects (args := #[]) (mvT hZ (wi hw 45 rfl))) (wi hw 45 rfl) (wi hw 44 rfl) (wi hw 3 rfl) (wi hw 46 rfl) (by decide) hh1 (a := a1) (argsL := []) (rest := []) (W := 0) P0 (rm9 l Z a0 hw a1 i2 h0 n0 Z0 P2) (hb hby d7_9) (by rw [hml]; rfl) rfl pd_azI rfl rfl (by decide) (by decide) (by decide) (by decide) ?_
  intro v2 T2 L2 X2 hQ2
  obtain ⟨rfl, Nq2, hh2⟩ := hQ2
  have N2 := Fr.app N1 Nq2
  show Go p.tables e below s _ _ _ (T2.setTop (mkF m 12 #[.val (.ref a1), .val (.int i1), .val (.int i2), .val (.int i3), .val (.int i4)] [(.int i2)]))
  refine g_iloadN X2 hx hby d7_12 (pc' := 13) rfl rfl ?_
  have hc13 : i2.toInt = i2.toInt := rfl
  refine g_icmpNo X2 hx hby d7_13 (pc' := 16) (teq (show i2 = i2 from Int32.toInt_inj.mp hc13)).2 rfl ?_
  refine g_aloadN X2 hx hby d7_16 (pc' := 17) rfl rfl rfl ?_
  refine Go.callV X2 hx hZ (y := (⟨"com/example/firstfail/firstfail/pairwise/Model$Pair", "otherParameter", "()I"⟩ : MethodName)) (z := (⟨"com/example/firstfail/firstfail/pairwise/Model$Pair", "otherParameter", "()I"⟩ : MethodName)) hown (wi hw 47 rfl) (wi hw 48 rfl) (notFace_of_selects (args := #[]) (mvT hZ (wi hw 50 rfl))) (wi hw 50 rfl) (wi hw 49 rfl) (wi hw 3 rfl) (wi hw 51 rfl) (by decide) hh2 (a := a1) (argsL := []) (rest := []) (W := 0) P0 (rm10 l Z a0 hw a1 i3 h0 n0 Z0 P3) (hb hby d7_17) (by rw [hml]; rfl) rfl pd_azI rfl rfl (by decide) (by decide) (by decide) (by decide) ?_
  intro v3 T3 L3 X3 hQ3
  obtain ⟨rfl, Nq3, hh3⟩ := hQ3
  have N3 := Fr.app N2 Nq3
  show Go p.tables e below s _ _ _ (T3.setTop (mkF m 20 #[.val (.ref a1), .val (.int i1), .val (.int i2), .val (.int i3), .val (.int i4)] [(.int i3)]))
  refine g_iloadN X3 hx hby d7_20 (pc' := 21) rfl rfl ?_
  have hc21 : i3.toInt = i3.toInt := rfl
  refine g_icmpNo X3 hx hby d7_21 (pc' := 24) (teq (show i3 = i3 from Int32.toInt_inj.mp hc21)).2 rfl ?_
  refine g_aloadN X3 hx hby d7_24 (pc' := 25) rfl rfl rfl ?_
  refine Go.callV X3 hx hZ (y := (⟨"com/example/firstfail/firstfail/pairwise/Model$Pair", "otherValue", "()I"⟩ : MethodName)) (z := (⟨"com/example/firstfail/firstfail/pairwise/Model$Pair", "otherValue", "()I"⟩ : MethodName)) hown (wi hw 52 rfl) (wi hw 53 rfl) (notFace_of_selects (args := #[]) (mvT hZ (wi hw 55 rfl))) (wi hw 55 rfl) (wi hw 54 rfl) (wi hw 3 rfl) (wi hw 56 rfl) (by decide) hh3 (a := a1) (argsL := []) (rest := []) (W := 0) P0 (rm11 l Z a0 hw a1 i4 h0 n0 Z0 P4) (hb hby d7_25) (by rw [hml]; rfl) rfl pd_azI rfl rfl (by decide) (by decide) (by decide) (by decide) ?_
  intro v4 T4 L4 X4 hQ4
  obtain ⟨rfl, Nq4, hh4⟩ := hQ4
  have N4 := Fr.app N3 Nq4
  show Go p.tables e below s _ _ _ (T4.setTop (mkF m 28 #[.val (.ref a1), .val (.int i1), .val (.int i2), .val (.int i3), .val (.int i4)] [(.int i4)]))
  refine g_iload X4 hx hby d7_28 (pc' := 30) rfl rfl ?_
  have hc30 : i4.toInt = i4.toInt := rfl
  refine g_icmpNo X4 hx hby d7_30 (pc' := 33) (teq (show i4 = i4 from Int32.toInt_inj.mp hc30)).2 rfl ?_
  refine g_iconst X4 hx hby d7_33 (pc' := 34) rfl (z := (1 : Int32)) rfl ?_
  refine g_goto X4 hx hby d7_34 (pc' := 38) (by decide) (by decide) ?_
  refine Go.retZ X4 hx hlk hret (by simp) (hb hby d7_38) (by decide) (by decide) ?_
  exact ⟨rfl, N4, hh4⟩
theorem pd_aIIIIzLcom_example_firstfail_firstfail_pairwise_Model24Pair_ : parseMethodDescriptor "(IIII)Lcom/example/firstfail/firstfail/pairwise/Model$Pair;" = some ⟨[.int, .int, .int, .int], some (.object "com/example/firstfail/firstfail/pairwise/Model$Pair")⟩ := by decide +kernel
theorem pd_aIIzI : parseMethodDescriptor "(II)I" = some ⟨[.int, .int], some .int⟩ := by decide +kernel
theorem pd_aLcom_example_firstfail_firstfail_pairwise_Model24Pair_IIIIzZ : parseMethodDescriptor "(Lcom/example/firstfail/firstfail/pairwise/Model$Pair;IIII)Z" = some ⟨[(.object "com/example/firstfail/firstfail/pairwise/Model$Pair"), .int, .int, .int, .int], some .boolean⟩ := by decide +kernel
theorem ef_rm0 (m : MethodId) (x0 : Int32) (x1 : Int32) (x2 : Int32) (x3 : Int32) : entryFrame m #[(.int x0), (.int x1), (.int x2), (.int x3)] maxLocals = mkF m 0 #[.val (.int x0), .val (.int x1), .val (.int x2), .val (.int x3), .unset, .unset, .unset, .unset, .unset, .unset, .unset, .unset, .unset, .unset] [] := by first | (simp [entryFrame, mkF, argsToLocals, Value.category, maxLocals]; done) | rfl
set_option maxRecDepth 65536 in
set_option maxHeartbeats 40000000 in
theorem rm0 (l : Launch) (Z : State) (a0 : Array Value) (hw : ∀ d ∈ tables_1, d.before a0 Z = true) (ws : List Jvm.Cond) (p1 p2 p3 p4 : Int32) (h0 : Heap) (n0 : Nat) (Z0 : n0 ≤ h0.size)  :
    MetFree l x (head1 (Jvm.Cond.code x code maxLocals ret :: ws) room_1) (fun a U => a = #[(.int p1), (.int p2), (.int p3), (.int p4)] ∧ Z.Warmed39 U.vm ∧ U.heap = h0) (fun _ _ _ _ _ => True) (fun _ U o U' => ∃ v L, o = .returned v ∧ (fun v h L => v = some (.int 1) ∧ Fr n0 L) v U'.heap L ∧ FrameEnd U o U' L room_1.cells room_1.slots) := by
  refine meet (y := x) (Q := fun v h L => v = some (.int 1) ∧ Fr n0 L) (plainFor_of_name pn_com_example_firstfail_firstfail_pairwise_PairOfPinLaw) (fun m => ef_rm0 m p1 p2 p3 p4) ?_
  intro p e s m below meth c T0 hx hby hml hZ hown hnm hret hlk X0 e0
  have N0 := Fr.nil n0
  have hml : c.maxLocals = 14 := hml
  refine g_iloadN X0 hx hby at_0 (pc' := 1) rfl rfl ?_
  refine g_ldcI X0 hx hby hZ hown (wi hw 0 rfl) at_1 (pc' := 3) rfl ?_
  refine g_iand X0 hx hby at_3 (pc' := 4) rfl rfl ?_
  show Go p.tables e below s _ _ _ (T0.setTop (mkF m 4 #[.val (.int p1), .val (.int p2), .val (.int p3), .val (.int p4), .unset, .unset, .unset, .unset, .unset, .unset, .unset, .unset, .unset, .unset] [(.int (p1 &&& (2147483647 : Int32)))]))
  generalize hv1 : (p1 &&& (2147483647 : Int32)) = v1
  refine g_istore X0 hx hby at_4 (pc' := 6) rfl (L' := #[.val (.int p1), .val (.int p2), .val (.int p3), .val (.int p4), .val (.int v1), .unset, .unset, .unset, .unset, .unset, .unset, .unset, .unset, .unset]) rfl ?_
  refine g_iloadN X0 hx hby at_6 (pc' := 7) rfl rfl ?_
  refine g_ldcI X0 hx hby hZ hown (wi hw 0 rfl) at_7 (pc' := 9) rfl ?_
  refine g_iand X0 hx hby at_9 (pc' := 10) rfl rfl ?_
  show Go p.tables e below s _ _ _ (T0.setTop (mkF m 10 #[.val (.int p1), .val (.int p2), .val (.int p3), .val (.int p4), .val (.int v1), .unset, .unset, .unset, .unset, .unset, .unset, .unset, .unset, .unset] [(.int (p2 &&& (2147483647 : Int32)))]))
  generalize hv2 : (p2 &&& (2147483647 : Int32)) = v2
  refine g_istore X0 hx hby at_10 (pc' := 12) rfl (L' := #[.val (.int p1), .val (.int p2), .val (.int p3), .val (.int p4), .val (.int v1), .val (.int v2), .unset, .unset, .unset, .unset, .unset, .unset, .unset, .unset]) rfl ?_
  refine g_iloadN X0 hx hby at_12 (pc' := 13) rfl rfl ?_
  refine g_ldcI X0 hx hby hZ hown (wi hw 0 rfl) at_13 (pc' := 15) rfl ?_
  refine g_iand X0 hx hby at_15 (pc' := 16) rfl rfl ?_
  show Go p.tables e below s _ _ _ (T0.setTop (mkF m 16 #[.val (.int p1), .val (.int p2), .val (.int p3), .val (.int p4), .val (.int v1), .val (.int v2), .unset, .unset, .unset, .unset, .unset, .unset, .unset, .unset] [(.int (p3 &&& (2147483647 : Int32)))]))
  generalize hv3 : (p3 &&& (2147483647 : Int32)) = v3
  refine g_istore X0 hx hby at_16 (pc' := 18) rfl (L' := #[.val (.int p1), .val (.int p2), .val (.int p3), .val (.int p4), .val (.int v1), .val (.int v2), .val (.int v3), .unset, .unset, .unset, .unset, .unset, .unset, .unset]) rfl ?_
  refine g_iloadN X0 hx hby at_18 (pc' := 19) rfl rfl ?_
  refine g_ldcI X0 hx hby hZ hown (wi hw 0 rfl) at_19 (pc' := 21) rfl ?_
  refine g_iand X0 hx hby at_21 (pc' := 22) rfl rfl ?_
  show Go p.tables e below s _ _ _ (T0.setTop (mkF m 22 #[.val (.int p1), .val (.int p2), .val (.int p3), .val (.int p4), .val (.int v1), .val (.int v2), .val (.int v3), .unset, .unset, .unset, .unset, .unset, .unset, .unset] [(.int (p4 &&& (2147483647 : Int32)))]))
  generalize hv4 : (p4 &&& (2147483647 : Int32)) = v4
  refine g_istore X0 hx hby at_22 (pc' := 24) rfl (L' := #[.val (.int p1), .val (.int p2), .val (.int p3), .val (.int p4), .val (.int v1), .val (.int v2), .val (.int v3), .val (.int v4), .unset, .unset, .unset, .unset, .unset, .unset]) rfl ?_
  have u4 : 0 ≤ v1.toInt := by rw [← hv1]; have : (p1 &&& (2147483647 : Int32)).toInt = p1.toInt % 2147483648 := c_mask _ _ 31 (by decide) (by decide); have : -2147483648 ≤ (p1 &&& (2147483647 : Int32)).toInt ∧ (p1 &&& (2147483647 : Int32)).toInt < 2147483648 := rng32 _; have : -2147483648 ≤ p1.toInt ∧ p1.toInt < 2147483648 := rng32 _; omega
  have u5 : 0 ≤ v2.toInt := by rw [← hv2]; have : (p2 &&& (2147483647 : Int32)).toInt = p2.toInt % 2147483648 := c_mask _ _ 31 (by decide) (by decide); have : -2147483648 ≤ (p2 &&& (2147483647 : Int32)).toInt ∧ (p2 &&& (2147483647 : Int32)).toInt < 2147483648 := rng32 _; have : -2147483648 ≤ p2.toInt ∧ p2.toInt < 2147483648 := rng32 _; omega
  have u6 : 0 ≤ v3.toInt := by rw [← hv3]; have : (p3 &&& (2147483647 : Int32)).toInt = p3.toInt % 2147483648 := c_mask _ _ 31 (by decide) (by decide); have : -2147483648 ≤ (p3 &&& (2147483647 : Int32)).toInt ∧ (p3 &&& (2147483647 : Int32)).toInt < 2147483648 := rng32 _; have : -2147483648 ≤ p3.toInt ∧ p3.toInt < 2147483648 := rng32 _; omega
  have u7 : 0 ≤ v4.toInt := by rw [← hv4]; have : (p4 &&& (2147483647 : Int32)).toInt = p4.toInt % 2147483648 := c_mask _ _ 31 (by decide) (by decide); have : -2147483648 ≤ (p4 &&& (2147483647 : Int32)).toInt ∧ (p4 &&& (2147483647 : Int32)).toInt < 2147483648 := rng32 _; have : -2147483648 ≤ p4.toInt ∧ p4.toInt < 2147483648 := rng32 _; omega
  refine g_iload X0 hx hby at_24 (pc' := 26) rfl rfl ?_
  refine g_iload X0 hx hby at_26 (pc' := 28) rfl rfl ?_
  by_cases hc28 : v1.toInt = v3.toInt
  · refine g_icmpNo X0 hx hby at_28 (pc' := 31) (teq (show v1 = v3 from Int32.toInt_inj.mp hc28)).2 rfl ?_
    refine g_iconst X0 hx hby at_31 (pc' := 32) rfl (z := (1 : Int32)) rfl ?_
    refine Go.retZ X0 hx hlk hret (by simp) (hb hby at_32) (by decide) (by decide) ?_
    exact ⟨rfl, N0⟩
  · refine g_icmpYes X0 hx hby at_28 (pc' := 33) (feq (show ¬ (v1 = v3) from fun q => hc28 (congrArg Int32.toInt q))).2 (by decide) (by decide) ?_
    by_cases hlt : v1.toInt < v3.toInt
    · have hp : True := trivial
      refine g_iload X0 hx hby at_33 (pc' := 35) rfl rfl ?_
      refine g_iload X0 hx hby at_35 (pc' := 37) rfl rfl ?_
      refine g_iload X0 hx hby at_37 (pc' := 39) rfl rfl ?_
      refine g_iload X0 hx hby at_39 (pc' := 41) rfl rfl ?_
      refine Go.callS X0 hx hZ (y := (⟨"com/example/firstfail/firstfail/pairwise/Model$Pair", "of", "(IIII)Lcom/example/firstfail/firstfail/pairwise/Model$Pair;"⟩ : MethodName)) hown (wi hw 1 rfl) (wi hw 2 rfl) (wi hw 3 rfl) (wi hw 4 rfl) (by decide) e0 (argsL := [(.int v1), (.int v2), (.int v3), (.int v4)]) (rest := []) (W := 0) (rm1a l Z a0 hw v1 v2 v3 v4 h0 n0 Z0 (by omega) (by omega) (by omega) (by omega) (by omega)) (hb hby at_41) (by rw [hml]; rfl) rfl pd_aIIIIzLcom_example_firstfail_firstfail_pairwise_Model24Pair_ rfl rfl (by decide) (by decide) (by decide) (by decide) ?_
      intro v5 T5 L5 X5 hQ5
      obtain ⟨h5, e5⟩ : ∃ z, T5.heap = z := ⟨_, rfl⟩
      rw [e5] at hQ5
      obtain ⟨b1_5, rfl, Nq5, Kq5, gqb1_5, sqb1_5, Fq0_5, Fq1_5, Fq2_5, Fq3_5, Fq4_5⟩ := hQ5
      have N5 := Fr.app N0 Nq5
      show Go p.tables e below s _ _ _ (T5.setTop (mkF m 44 #[.val (.int p1), .val (.int p2), .val (.int p3), .val (.int p4), .val (.int v1), .val (.int v2), .val (.int v3), .val (.int v4), .unset, .unset, .unset, .unset, .unset, .unset] [(.ref b1_5)]))
      refine g_astore X5 hx hby at_44 (pc' := 46) rfl rfl (L' := #[.val (.int p1), .val (.int p2), .val (.int p3), .val (.int p4), .val (.int v1), .val (.int v2), .val (.int v3), .val (.int v4), .val (.ref b1_5), .unset, .unset, .unset, .unset, .unset]) rfl ?_
      refine g_iload X5 hx hby at_46 (pc' := 48) rfl rfl ?_
      refine g_iload X5 hx hby at_48 (pc' := 50) rfl rfl ?_
      refine g_iload X5 hx hby at_50 (pc' := 52) rfl rfl ?_
      refine g_iload X5 hx hby at_52 (pc' := 54) rfl rfl ?_
      refine Go.callS X5 hx hZ (y := (⟨"com/example/firstfail/firstfail/pairwise/Model$Pair", "of", "(IIII)Lcom/example/firstfail/firstfail/pairwise/Model$Pair;"⟩ : MethodName)) hown (wi hw 1 rfl) (wi hw 2 rfl) (wi hw 3 rfl) (wi hw 4 rfl) (by decide) e5 (argsL := [(.int v3), (.int v4), (.int v1), (.int v2)]) (rest := []) (W := 0) (rm1b l Z a0 hw v3 v4 v1 v2 h5 n0 (Nat.le_trans Z0 Kq5.1) (by omega) (by omega) (by omega) (by omega) (by omega)) (hb hby at_54) (by rw [hml]; rfl) rfl pd_aIIIIzLcom_example_firstfail_firstfail_pairwise_Model24Pair_ rfl rfl (by decide) (by decide) (by decide) (by decide) ?_
      intro v6 T6 L6 X6 hQ6
      obtain ⟨h6, e6⟩ : ∃ z, T6.heap = z := ⟨_, rfl⟩
      rw [e6] at hQ6
      obtain ⟨b1_6, rfl, Nq6, Kq6, gqb1_6, sqb1_6, Fq0_6, Fq1_6, Fq2_6, Fq3_6, Fq4_6⟩ := hQ6
      have N6 := Fr.app N5 Nq6
      show Go p.tables e below s _ _ _ (T6.setTop (mkF m 57 #[.val (.int p1), .val (.int p2), .val (.int p3), .val (.int p4), .val (.int v1), .val (.int v2), .val (.int v3), .val (.int v4), .val (.ref b1_5), .unset, .unset, .unset, .unset, .unset] [(.ref b1_6)]))
      refine g_astore X6 hx hby at_57 (pc' := 59) rfl rfl (L' := #[.val (.int p1), .val (.int p2), .val (.int p3), .val (.int p4), .val (.int v1), .val (.int v2), .val (.int v3), .val (.int v4), .val (.ref b1_5), .val (.ref b1_6), .unset, .unset, .unset, .unset]) rfl ?_
      refine g_iload X6 hx hby at_59 (pc' := 61) rfl rfl ?_
      refine g_iload X6 hx hby at_61 (pc' := 63) rfl rfl ?_
      refine Go.callS X6 hx hZ (y := (⟨"java/lang/Math", "min", "(II)I"⟩ : MethodName)) hown (wi hw 26 rfl) (wi hw 27 rfl) (wi hw 28 rfl) (wi hw 29 rfl) (by decide) e6 (argsL := [(.int v1), (.int v3)]) (rest := []) (W := 0) (rm5a l Z a0 hw v1 v3 h6 n0 (Nat.le_trans (Nat.le_trans Z0 Kq5.1) Kq6.1) (by omega)) (hb hby at_63) (by rw [hml]; rfl) rfl pd_aIIzI rfl rfl (by decide) (by decide) (by decide) (by decide) ?_
      intro v7 T7 L7 X7 hQ7
      obtain ⟨rfl, Nq7, hh7⟩ := hQ7
      have N7 := Fr.app N6 Nq7
      show Go p.tables e below s _ _ _ (T7.setTop (mkF m 66 #[.val (.int p1), .val (.int p2), .val (.int p3), .val (.int p4), .val (.int v1), .val (.int v2), .val (.int v3), .val (.int v4), .val (.ref b1_5), .val (.ref b1_6), .unset, .unset, .unset, .unset] [(.int v1)]))
      refine g_istore X7 hx hby at_66 (pc' := 68) rfl (L' := #[.val (.int p1), .val (.int p2), .val (.int p3), .val (.int p4), .val (.int v1), .val (.int v2), .val (.int v3), .val (.int v4), .val (.ref b1_5), .val (.ref b1_6), .val (.int v1), .unset, .unset, .unset]) rfl ?_
      refine g_iload X7 hx hby at_68 (pc' := 70) rfl rfl ?_
      refine g_iload X7 hx hby at_70 (pc' := 72) rfl rfl ?_
      refine Go.callS X7 hx hZ (y := (⟨"java/lang/Math", "max", "(II)I"⟩ : MethodName)) hown (wi hw 30 rfl) (wi hw 31 rfl) (wi hw 28 rfl) (wi hw 32 rfl) (by decide) hh7 (argsL := [(.int v1), (.int v3)]) (rest := []) (W := 0) (rm6a l Z a0 hw v1 v3 h6 n0 (Nat.le_trans (Nat.le_trans Z0 Kq5.1) Kq6.1) (by omega)) (hb hby at_72) (by rw [hml]; rfl) rfl pd_aIIzI rfl rfl (by decide) (by decide) (by decide) (by decide) ?_
      intro v8 T8 L8 X8 hQ8
      obtain ⟨rfl, Nq8, hh8⟩ := hQ8
      have N8 := Fr.app N7 Nq8
      show Go p.tables e below s _ _ _ (T8.setTop (mkF m 75 #[.val (.int p1), .val (.int p2), .val (.int p3), .val (.int p4), .val (.int v1), .val (.int v2), .val (.int v3), .val (.int v4), .val (.ref b1_5), .val (.ref b1_6), .val (.int v1), .unset, .unset, .unset] [(.int v3)]))
      refine g_istore X8 hx hby at_75 (pc' := 77) rfl (L' := #[.val (.int p1), .val (.int p2), .val (.int p3), .val (.int p4), .val (.int v1), .val (.int v2), .val (.int v3), .val (.int v4), .val (.ref b1_5), .val (.ref b1_6), .val (.int v1), .val (.int v3), .unset, .unset]) rfl ?_
      refine g_iload X8 hx hby at_77 (pc' := 79) rfl rfl ?_
      refine g_iload X8 hx hby at_79 (pc' := 81) rfl rfl ?_
      have hc81 : v1.toInt = v1.toInt := rfl
      refine g_icmpNo X8 hx hby at_81 (pc' := 84) (teq (show v1 = v1 from Int32.toInt_inj.mp hc81)).2 rfl ?_
      refine g_iload X8 hx hby at_84 (pc' := 86) rfl rfl ?_
      refine g_goto X8 hx hby at_86 (pc' := 91) (by decide) (by decide) ?_
      refine g_istore X8 hx hby at_91 (pc' := 93) rfl (L' := #[.val (.int p1), .val (.int p2), .val (.int p3), .val (.int p4), .val (.int v1), .val (.int v2), .val (.int v3), .val (.int v4), .val (.ref b1_5), .val (.ref b1_6), .val (.int v1), .val (.int v3), .val (.int v2), .unset]) rfl ?_
      refine g_iload X8 hx hby at_93 (pc' := 95) rfl rfl ?_
      refine g_iload X8 hx hby at_95 (pc' := 97) rfl rfl ?_
      have hc97 : v3.toInt = v3.toInt := rfl
      refine g_icmpNo X8 hx hby at_97 (pc' := 100) (teq (show v3 = v3 from Int32.toInt_inj.mp hc97)).2 rfl ?_
      refine g_iload X8 hx hby at_100 (pc' := 102) rfl rfl ?_
      refine g_goto X8 hx hby at_102 (pc' := 107) (by decide) (by decide) ?_
      refine g_istore X8 hx hby at_107 (pc' := 109) rfl (L' := #[.val (.int p1), .val (.int p2), .val (.int p3), .val (.int p4), .val (.int v1), .val (.int v2), .val (.int v3), .val (.int v4), .val (.ref b1_5), .val (.ref b1_6), .val (.int v1), .val (.int v3), .val (.int v2), .val (.int v4)]) rfl ?_
      refine g_aload X8 hx hby at_109 (pc' := 111) rfl rfl rfl ?_
      refine g_iload X8 hx hby at_111 (pc' := 113) rfl rfl ?_
      refine g_iload X8 hx hby at_113 (pc' := 115) rfl rfl ?_
      refine g_iload X8 hx hby at_115 (pc' := 117) rfl rfl ?_
      refine g_iload X8 hx hby at_117 (pc' := 119) rfl rfl ?_
      have f10 := Fq0_5.keep Kq6
      have f11 := Fq1_5.keep Kq6 nin0
      have f12 := Fq2_5.keep Kq6 nin0
      have f13 := Fq3_5.keep Kq6 nin0
      have f14 := Fq4_5.keep Kq6 nin0
      refine Go.callS X8 hx hZ (y := (⟨"com/example/firstfail/firstfail/pairwise/PairOfPinLaw", "is", "(Lcom/example/firstfail/firstfail/pairwise/Model$Pair;IIII)Z"⟩ : MethodName)) hown (wi hw 33 rfl) (wi hw 34 rfl) (wi hw 35 rfl) (wi hw 36 rfl) (by decide) hh8 (argsL := [(.ref b1_5), (.int v1), (.int v2), (.int v3), (.int v4)]) (rest := []) (W := 0) (rm7 l Z a0 hw b1_5 v1 v2 v3 v4 h6 n0 (Nat.le_trans (Nat.le_trans Z0 Kq5.1) Kq6.1) f10 f11 f12 f13 f14) (hb hby at_119) (by rw [hml]; rfl) rfl pd_aLcom_example_firstfail_firstfail_pairwise_Model24Pair_IIIIzZ rfl rfl (by decide) (by decide) (by decide) (by decide) ?_
      intro v9 T9 L9 X9 hQ9
      obtain ⟨rfl, Nq9, hh9⟩ := hQ9
      have N9 := Fr.app N8 Nq9
      show Go p.tables e below s _ _ _ (T9.setTop (mkF m 122 #[.val (.int p1), .val (.int p2), .val (.int p3), .val (.int p4), .val (.int v1), .val (.int v2), .val (.int v3), .val (.int v4), .val (.ref b1_5), .val (.ref b1_6), .val (.int v1), .val (.int v3), .val (.int v2), .val (.int v4)] [(.int (1 : Int32))]))
      have hc122 : ¬ ((1 : Int) = (0 : Int)) := by decide
      refine g_ifNo X9 hx hby at_122 (pc' := 125) (feq (show ¬ ((1 : Int32) = (0 : Int32)) from fun q => hc122 (congrArg Int32.toInt q))).1 rfl ?_
      refine g_aload X9 hx hby at_125 (pc' := 127) rfl rfl rfl ?_
      refine g_iload X9 hx hby at_127 (pc' := 129) rfl rfl ?_
      refine g_iload X9 hx hby at_129 (pc' := 131) rfl rfl ?_
      refine g_iload X9 hx hby at_131 (pc' := 133) rfl rfl ?_
      refine g_iload X9 hx hby at_133 (pc' := 135) rfl rfl ?_
      refine Go.callS X9 hx hZ (y := (⟨"com/example/firstfail/firstfail/pairwise/PairOfPinLaw", "is", "(Lcom/example/firstfail/firstfail/pairwise/Model$Pair;IIII)Z"⟩ : MethodName)) hown (wi hw 33 rfl) (wi hw 34 rfl) (wi hw 35 rfl) (wi hw 36 rfl) (by decide) hh9 (argsL := [(.ref b1_6), (.int v1), (.int v2), (.int v3), (.int v4)]) (rest := []) (W := 0) (rm7 l Z a0 hw b1_6 v1 v2 v3 v4 h6 n0 (Nat.le_trans (Nat.le_trans Z0 Kq5.1) Kq6.1) Fq0_6 Fq1_6 Fq2_6 Fq3_6 Fq4_6) (hb hby at_135) (by rw [hml]; rfl) rfl pd_aLcom_example_firstfail_firstfail_pairwise_Model24Pair_IIIIzZ rfl rfl (by decide) (by decide) (by decide) (by decide) ?_
      intro v15 T15 L15 X15 hQ15
      obtain ⟨rfl, Nq15, hh15⟩ := hQ15
      have N15 := Fr.app N9 Nq15
      show Go p.tables e below s _ _ _ (T15.setTop (mkF m 138 #[.val (.int p1), .val (.int p2), .val (.int p3), .val (.int p4), .val (.int v1), .val (.int v2), .val (.int v3), .val (.int v4), .val (.ref b1_5), .val (.ref b1_6), .val (.int v1), .val (.int v3), .val (.int v2), .val (.int v4)] [(.int (1 : Int32))]))
      have hc138 : ¬ ((1 : Int) = (0 : Int)) := by decide
      refine g_ifNo X15 hx hby at_138 (pc' := 141) (feq (show ¬ ((1 : Int32) = (0 : Int32)) from fun q => hc138 (congrArg Int32.toInt q))).1 rfl ?_
      refine g_iconst X15 hx hby at_141 (pc' := 142) rfl (z := (1 : Int32)) rfl ?_
      refine g_goto X15 hx hby at_142 (pc' := 146) (by decide) (by decide) ?_
      refine Go.retZ X15 hx hlk hret (by simp) (hb hby at_146) (by decide) (by decide) ?_
      exact ⟨rfl, N15⟩
    · have hp : v3.toInt < v1.toInt := by omega
      refine g_iload X0 hx hby at_33 (pc' := 35) rfl rfl ?_
      refine g_iload X0 hx hby at_35 (pc' := 37) rfl rfl ?_
      refine g_iload X0 hx hby at_37 (pc' := 39) rfl rfl ?_
      refine g_iload X0 hx hby at_39 (pc' := 41) rfl rfl ?_
      refine Go.callS X0 hx hZ (y := (⟨"com/example/firstfail/firstfail/pairwise/Model$Pair", "of", "(IIII)Lcom/example/firstfail/firstfail/pairwise/Model$Pair;"⟩ : MethodName)) hown (wi hw 1 rfl) (wi hw 2 rfl) (wi hw 3 rfl) (wi hw 4 rfl) (by decide) e0 (argsL := [(.int v1), (.int v2), (.int v3), (.int v4)]) (rest := []) (W := 0) (rm1b l Z a0 hw v1 v2 v3 v4 h0 n0 Z0 (by omega) (by omega) (by omega) (by omega) (by omega)) (hb hby at_41) (by rw [hml]; rfl) rfl pd_aIIIIzLcom_example_firstfail_firstfail_pairwise_Model24Pair_ rfl rfl (by decide) (by decide) (by decide) (by decide) ?_
      intro v16 T16 L16 X16 hQ16
      obtain ⟨h16, e16⟩ : ∃ z, T16.heap = z := ⟨_, rfl⟩
      rw [e16] at hQ16
      obtain ⟨b1_16, rfl, Nq16, Kq16, gqb1_16, sqb1_16, Fq0_16, Fq1_16, Fq2_16, Fq3_16, Fq4_16⟩ := hQ16
      have N16 := Fr.app N0 Nq16
      show Go p.tables e below s _ _ _ (T16.setTop (mkF m 44 #[.val (.int p1), .val (.int p2), .val (.int p3), .val (.int p4), .val (.int v1), .val (.int v2), .val (.int v3), .val (.int v4), .unset, .unset, .unset, .unset, .unset, .unset] [(.ref b1_16)]))
      refine g_astore X16 hx hby at_44 (pc' := 46) rfl rfl (L' := #[.val (.int p1), .val (.int p2), .val (.int p3), .val (.int p4), .val (.int v1), .val (.int v2), .val (.int v3), .val (.int v4), .val (.ref b1_16), .unset, .unset, .unset, .unset, .unset]) rfl ?_
      refine g_iload X16 hx hby at_46 (pc' := 48) rfl rfl ?_
      refine g_iload X16 hx hby at_48 (pc' := 50) rfl rfl ?_
      refine g_iload X16 hx hby at_50 (pc' := 52) rfl rfl ?_
      refine g_iload X16 hx hby at_52 (pc' := 54) rfl rfl ?_
      refine Go.callS X16 hx hZ (y := (⟨"com/example/firstfail/firstfail/pairwise/Model$Pair", "of", "(IIII)Lcom/example/firstfail/firstfail/pairwise/Model$Pair;"⟩ : MethodName)) hown (wi hw 1 rfl) (wi hw 2 rfl) (wi hw 3 rfl) (wi hw 4 rfl) (by decide) e16 (argsL := [(.int v3), (.int v4), (.int v1), (.int v2)]) (rest := []) (W := 0) (rm1a l Z a0 hw v3 v4 v1 v2 h16 n0 (Nat.le_trans Z0 Kq16.1) (by omega) (by omega) (by omega) (by omega) (by omega)) (hb hby at_54) (by rw [hml]; rfl) rfl pd_aIIIIzLcom_example_firstfail_firstfail_pairwise_Model24Pair_ rfl rfl (by decide) (by decide) (by decide) (by decide) ?_
      intro v17 T17 L17 X17 hQ17
      obtain ⟨h17, e17⟩ : ∃ z, T17.heap = z := ⟨_, rfl⟩
      rw [e17] at hQ17
      obtain ⟨b1_17, rfl, Nq17, Kq17, gqb1_17, sqb1_17, Fq0_17, Fq1_17, Fq2_17, Fq3_17, Fq4_17⟩ := hQ17
      have N17 := Fr.app N16 Nq17
      show Go p.tables e below s _ _ _ (T17.setTop (mkF m 57 #[.val (.int p1), .val (.int p2), .val (.int p3), .val (.int p4), .val (.int v1), .val (.int v2), .val (.int v3), .val (.int v4), .val (.ref b1_16), .unset, .unset, .unset, .unset, .unset] [(.ref b1_17)]))
      refine g_astore X17 hx hby at_57 (pc' := 59) rfl rfl (L' := #[.val (.int p1), .val (.int p2), .val (.int p3), .val (.int p4), .val (.int v1), .val (.int v2), .val (.int v3), .val (.int v4), .val (.ref b1_16), .val (.ref b1_17), .unset, .unset, .unset, .unset]) rfl ?_
      refine g_iload X17 hx hby at_59 (pc' := 61) rfl rfl ?_
      refine g_iload X17 hx hby at_61 (pc' := 63) rfl rfl ?_
      refine Go.callS X17 hx hZ (y := (⟨"java/lang/Math", "min", "(II)I"⟩ : MethodName)) hown (wi hw 26 rfl) (wi hw 27 rfl) (wi hw 28 rfl) (wi hw 29 rfl) (by decide) e17 (argsL := [(.int v1), (.int v3)]) (rest := []) (W := 0) (rm5b l Z a0 hw v1 v3 h17 n0 (Nat.le_trans (Nat.le_trans Z0 Kq16.1) Kq17.1) (by omega)) (hb hby at_63) (by rw [hml]; rfl) rfl pd_aIIzI rfl rfl (by decide) (by decide) (by decide) (by decide) ?_
      intro v18 T18 L18 X18 hQ18
      obtain ⟨rfl, Nq18, hh18⟩ := hQ18
      have N18 := Fr.app N17 Nq18
      show Go p.tables e below s _ _ _ (T18.setTop (mkF m 66 #[.val (.int p1), .val (.int p2), .val (.int p3), .val (.int p4), .val (.int v1), .val (.int v2), .val (.int v3), .val (.int v4), .val (.ref b1_16), .val (.ref b1_17), .unset, .unset, .unset, .unset] [(.int v3)]))
      refine g_istore X18 hx hby at_66 (pc' := 68) rfl (L' := #[.val (.int p1), .val (.int p2), .val (.int p3), .val (.int p4), .val (.int v1), .val (.int v2), .val (.int v3), .val (.int v4), .val (.ref b1_16), .val (.ref b1_17), .val (.int v3), .unset, .unset, .unset]) rfl ?_
      refine g_iload X18 hx hby at_68 (pc' := 70) rfl rfl ?_
      refine g_iload X18 hx hby at_70 (pc' := 72) rfl rfl ?_
      refine Go.callS X18 hx hZ (y := (⟨"java/lang/Math", "max", "(II)I"⟩ : MethodName)) hown (wi hw 30 rfl) (wi hw 31 rfl) (wi hw 28 rfl) (wi hw 32 rfl) (by decide) hh18 (argsL := [(.int v1), (.int v3)]) (rest := []) (W := 0) (rm6b l Z a0 hw v1 v3 h17 n0 (Nat.le_trans (Nat.le_trans Z0 Kq16.1) Kq17.1) (by omega)) (hb hby at_72) (by rw [hml]; rfl) rfl pd_aIIzI rfl rfl (by decide) (by decide) (by decide) (by decide) ?_
      intro v19 T19 L19 X19 hQ19
      obtain ⟨rfl, Nq19, hh19⟩ := hQ19
      have N19 := Fr.app N18 Nq19
      show Go p.tables e below s _ _ _ (T19.setTop (mkF m 75 #[.val (.int p1), .val (.int p2), .val (.int p3), .val (.int p4), .val (.int v1), .val (.int v2), .val (.int v3), .val (.int v4), .val (.ref b1_16), .val (.ref b1_17), .val (.int v3), .unset, .unset, .unset] [(.int v1)]))
      refine g_istore X19 hx hby at_75 (pc' := 77) rfl (L' := #[.val (.int p1), .val (.int p2), .val (.int p3), .val (.int p4), .val (.int v1), .val (.int v2), .val (.int v3), .val (.int v4), .val (.ref b1_16), .val (.ref b1_17), .val (.int v3), .val (.int v1), .unset, .unset]) rfl ?_
      refine g_iload X19 hx hby at_77 (pc' := 79) rfl rfl ?_
      refine g_iload X19 hx hby at_79 (pc' := 81) rfl rfl ?_
      have hc81 : ¬ (v3.toInt = v1.toInt) := by omega
      refine g_icmpYes X19 hx hby at_81 (pc' := 89) (feq (show ¬ (v3 = v1) from fun q => hc81 (congrArg Int32.toInt q))).2 (by decide) (by decide) ?_
      refine g_iload X19 hx hby at_89 (pc' := 91) rfl rfl ?_
      refine g_istore X19 hx hby at_91 (pc' := 93) rfl (L' := #[.val (.int p1), .val (.int p2), .val (.int p3), .val (.int p4), .val (.int v1), .val (.int v2), .val (.int v3), .val (.int v4), .val (.ref b1_16), .val (.ref b1_17), .val (.int v3), .val (.int v1), .val (.int v4), .unset]) rfl ?_
      refine g_iload X19 hx hby at_93 (pc' := 95) rfl rfl ?_
      refine g_iload X19 hx hby at_95 (pc' := 97) rfl rfl ?_
      have hc97 : ¬ (v1.toInt = v3.toInt) := by omega
      refine g_icmpYes X19 hx hby at_97 (pc' := 105) (feq (show ¬ (v1 = v3) from fun q => hc97 (congrArg Int32.toInt q))).2 (by decide) (by decide) ?_
      refine g_iload X19 hx hby at_105 (pc' := 107) rfl rfl ?_
      refine g_istore X19 hx hby at_107 (pc' := 109) rfl (L' := #[.val (.int p1), .val (.int p2), .val (.int p3), .val (.int p4), .val (.int v1), .val (.int v2), .val (.int v3), .val (.int v4), .val (.ref b1_16), .val (.ref b1_17), .val (.int v3), .val (.int v1), .val (.int v4), .val (.int v2)]) rfl ?_
      refine g_aload X19 hx hby at_109 (pc' := 111) rfl rfl rfl ?_
      refine g_iload X19 hx hby at_111 (pc' := 113) rfl rfl ?_
      refine g_iload X19 hx hby at_113 (pc' := 115) rfl rfl ?_
      refine g_iload X19 hx hby at_115 (pc' := 117) rfl rfl ?_
      refine g_iload X19 hx hby at_117 (pc' := 119) rfl rfl ?_
      have f21 := Fq0_16.keep Kq17
      have f22 := Fq1_16.keep Kq17 nin0
      have f23 := Fq2_16.keep Kq17 nin0
      have f24 := Fq3_16.keep Kq17 nin0
      have f25 := Fq4_16.keep Kq17 nin0
      refine Go.callS X19 hx hZ (y := (⟨"com/example/firstfail/firstfail/pairwise/PairOfPinLaw", "is", "(Lcom/example/firstfail/firstfail/pairwise/Model$Pair;IIII)Z"⟩ : MethodName)) hown (wi hw 33 rfl) (wi hw 34 rfl) (wi hw 35 rfl) (wi hw 36 rfl) (by decide) hh19 (argsL := [(.ref b1_16), (.int v3), (.int v4), (.int v1), (.int v2)]) (rest := []) (W := 0) (rm7 l Z a0 hw b1_16 v3 v4 v1 v2 h17 n0 (Nat.le_trans (Nat.le_trans Z0 Kq16.1) Kq17.1) f21 f22 f23 f24 f25) (hb hby at_119) (by rw [hml]; rfl) rfl pd_aLcom_example_firstfail_firstfail_pairwise_Model24Pair_IIIIzZ rfl rfl (by decide) (by decide) (by decide) (by decide) ?_
      intro v20 T20 L20 X20 hQ20
      obtain ⟨rfl, Nq20, hh20⟩ := hQ20
      have N20 := Fr.app N19 Nq20
      show Go p.tables e below s _ _ _ (T20.setTop (mkF m 122 #[.val (.int p1), .val (.int p2), .val (.int p3), .val (.int p4), .val (.int v1), .val (.int v2), .val (.int v3), .val (.int v4), .val (.ref b1_16), .val (.ref b1_17), .val (.int v3), .val (.int v1), .val (.int v4), .val (.int v2)] [(.int (1 : Int32))]))
      have hc122 : ¬ ((1 : Int) = (0 : Int)) := by decide
      refine g_ifNo X20 hx hby at_122 (pc' := 125) (feq (show ¬ ((1 : Int32) = (0 : Int32)) from fun q => hc122 (congrArg Int32.toInt q))).1 rfl ?_
      refine g_aload X20 hx hby at_125 (pc' := 127) rfl rfl rfl ?_
      refine g_iload X20 hx hby at_127 (pc' := 129) rfl rfl ?_
      refine g_iload X20 hx hby at_129 (pc' := 131) rfl rfl ?_
      refine g_iload X20 hx hby at_131 (pc' := 133) rfl rfl ?_
      refine g_iload X20 hx hby at_133 (pc' := 135) rfl rfl ?_
      refine Go.callS X20 hx hZ (y := (⟨"com/example/firstfail/firstfail/pairwise/PairOfPinLaw", "is", "(Lcom/example/firstfail/firstfail/pairwise/Model$Pair;IIII)Z"⟩ : MethodName)) hown (wi hw 33 rfl) (wi hw 34 rfl) (wi hw 35 rfl) (wi hw 36 rfl) (by decide) hh20 (argsL := [(.ref b1_17), (.int v3), (.int v4), (.int v1), (.int v2)]) (rest := []) (W := 0) (rm7 l Z a0 hw b1_17 v3 v4 v1 v2 h17 n0 (Nat.le_trans (Nat.le_trans Z0 Kq16.1) Kq17.1) Fq0_17 Fq1_17 Fq2_17 Fq3_17 Fq4_17) (hb hby at_135) (by rw [hml]; rfl) rfl pd_aLcom_example_firstfail_firstfail_pairwise_Model24Pair_IIIIzZ rfl rfl (by decide) (by decide) (by decide) (by decide) ?_
      intro v26 T26 L26 X26 hQ26
      obtain ⟨rfl, Nq26, hh26⟩ := hQ26
      have N26 := Fr.app N20 Nq26
      show Go p.tables e below s _ _ _ (T26.setTop (mkF m 138 #[.val (.int p1), .val (.int p2), .val (.int p3), .val (.int p4), .val (.int v1), .val (.int v2), .val (.int v3), .val (.int v4), .val (.ref b1_16), .val (.ref b1_17), .val (.int v3), .val (.int v1), .val (.int v4), .val (.int v2)] [(.int (1 : Int32))]))
      have hc138 : ¬ ((1 : Int) = (0 : Int)) := by decide
      refine g_ifNo X26 hx hby at_138 (pc' := 141) (feq (show ¬ ((1 : Int32) = (0 : Int32)) from fun q => hc138 (congrArg Int32.toInt q))).1 rfl ?_
      refine g_iconst X26 hx hby at_141 (pc' := 142) rfl (z := (1 : Int32)) rfl ?_
      refine g_goto X26 hx hby at_142 (pc' := 146) (by decide) (by decide) ?_
      refine Go.retZ X26 hx hlk hret (by simp) (hb hby at_146) (by decide) (by decide) ?_
      exact ⟨rfl, N26⟩
set_option maxRecDepth 65536 in
set_option maxHeartbeats 40000000 in
theorem comes_1 {Post : Tables → Env → Array Value → State → Outcome → State → Prop} (hpost : ∀ tb e args s v u, (limb_1_1.after args s (.returned v) u = true ∧ limb_1_2.after args s (.returned v) u = true) → FrameEnd s (.returned v) u (Jvm.fieldLocs frame_1_writes args s ++ Jvm.arrayLocs frame_1_arrays args s ++ Jvm.staticLocs frame_1_statics s) 16 128 → Post tb e args s (.returned v) u) :
    ArmFor flags0 classFile x code maxLocals ret World_1 tables_1 room_1 Calls_1 rest_1 Pre_1 Post := by
  intro l hfl _ _ p e ha hc hk s m args below hf hA hF happ hP
  obtain ⟨hcalls, hrest, hpre⟩ := hP
  obtain ⟨-, -, -, hnamed, -, -, -, hat⟩ := (Spec.applies_iff hf).mp happ
  obtain ⟨hg, hn⟩ := and_e (Cond.before_iff.mp (show (Jvm.Cond.and given_1 narrow_1).before args s = true from hpre))
  obtain ⟨g0, r0⟩ := and_e hg
  obtain ⟨g1, r1⟩ := and_e r0
  obtain ⟨g2, r2⟩ := and_e r1
  obtain ⟨g3, g4⟩ := and_e r2
  obtain ⟨w0, w1, w2, w3, rfl⟩ : ∃ w0 w1 w2 w3 : Value, args = #[w0, w1, w2, w3] := by
    have hs : args.size = 4 := by simpa [Cond.value, given_1] using g0
    obtain ⟨L⟩ := args
    match L, hs with
    | [w0, w1, w2, w3], _ => exact ⟨w0, w1, w2, w3, rfl⟩
  have hw := fun d (hd : d ∈ tables_1) => atoms_spec (ws := Jvm.Cond.code x code maxLocals ret :: tables_1) hat d (List.mem_cons_of_mem _ hd)
  have hfit : Fit s := fun {y c} hc i hi => by
    obtain ⟨ha, rfl⟩ := Array.getElem?_eq_some_iff.mp hc
    have q := List.all_eq_true.mp ((Array.all_eq_true_iff_forall_mem.mp hF) _ (Array.getElem_mem ha)) i (List.mem_range.mpr hi)
    simpa [Array.getElem?_eq_getElem hi] using q
  obtain ⟨i0, ei0⟩ := is_v g1
  obtain rfl : w0 = (.int i0) := Option.some.inj ei0
  obtain ⟨i1, ei1⟩ := is_v g2
  obtain rfl : w1 = (.int i1) := Option.some.inj ei1
  obtain ⟨i2, ei2⟩ := is_v g3
  obtain rfl : w2 = (.int i2) := Option.some.inj ei2
  obtain ⟨i3, ei3⟩ := is_v g4
  obtain rfl : w3 = (.int i3) := Option.some.inj ei3
  obtain ⟨n, o, h1, h2, h3, _, L, rfl, ⟨rfl, N⟩, hq⟩ := rm0 l s _ hw tables_1 i0 i1 i2 i3 s.heap s.heap.size (Nat.le_refl _)  p e ha hc hk s m _ below hf ((Spec.applies_iff_loose hf).mp happ).1 ⟨rfl, State.Warmed39.refl s, rfl⟩ trivial
  refine ⟨n, _, h1, h2, h3, hpost _ _ _ _ _ _ ⟨Cond.after_iff.mpr rfl, Cond.after_iff.mpr (eq_i res_at (Term.int_eval (1)) rfl)⟩ ⟨hq.1, hq.2.1, (hq.2.2.sift fun y hy => Or.inr (N y hy)).mono (by decide) (by decide)⟩⟩
theorem main_1_1 : Claimed_1_1 := comes_1 fun _ _ _ _ _ _ h hF => ⟨h.1, hF⟩
theorem main_1_2 : Claimed_1_2 := comes_1 fun _ _ _ _ _ _ h hF => ⟨h.2, hF⟩
end Jvm.Pilot.@@N@@
namespace Jvm.Pilot.@@N@@
open Jvm Jvm.ClassFile Sem Op Lib Jvm.Free Jvm.Stand Jvm.Pilot.@@N@@.Jvm.D
/-! MADE BY PROGRAM (witnessworld.py) out of the Statement's table words and the real class files: 12 classes; the members and pool entries that the words name. The judged class is class 1, her method 2. -/
namespace start1
open Jvm.ClassFile
def u (s : String) : CpInfo := .utf8 (stringToUtf16 s)
/-- a pool by its gaps: so many unusable entries, then the entry; so many at the end -/
def gap : Nat → List CpInfo → List CpInfo
  | 0, r => r
  | n + 1, r => .unusable :: gap n r
def poolList (es : List (Nat × CpInfo)) (last : Nat) : List CpInfo := es.foldr (fun e r => gap e.1 (e.2 :: r)) (gap last [])
def pool (es : List (Nat × CpInfo)) (last : Nat) : Array CpInfo := ⟨poolList es last⟩
def fileOf (pool : Array CpInfo) (this : Nat) (attrs : Array Attribute := #[]) (ms : Array MethodInfo := #[]) (fl : Nat := 33) (sup : Nat := 0) (ifs : Array Nat := #[]) (fds : Array FieldInfo := #[]) : ClassFile where
  minorVersion := 0
  majorVersion := 65
  constantPool := pool
  accessFlags := fl
  thisClass := this
  superClass := sup
  interfaces := ifs
  fields := fds
  methods := ms
  attributes := attrs
def plain (name : String) (sup : Option ClassId) : Class where
  name := name
  kind := .ordinary
  loader := none
  accessFlags := 33
  super := sup
  interfaces := #[]
  cf := none
  fields := #[]
  methods := #[]
  instanceTypes := #[]
  staticTypes := #[]
  resolved := #[]
  callSites := []
  init := .initialized
  statics := none
  mirror := none

def pool0 : Array CpInfo := pool [(5, u "<init>"), (0, u "()V"), (1, .class_ 10), (1, u "java/lang/Object")] 113

def k0c0 : Code := { maxStack := 0, maxLocals := 1, code := object_method_1_code, exceptionTable := #[], attributes := #[] }
def k0m0 : Method := { name := "<init>", desc := "()V", sig := { parameters := [], returnType := none }, accessFlags := 1, code := some k0c0 }
/-- java/lang/Object -/
def k0 : Class := { plain "java/lang/Object" none with
  accessFlags := 33
  interfaces := #[]
  cf := some (fileOf pool0 8 #[] #[{ accessFlags := 1, nameIndex := 5, descriptorIndex := 6, attributes := #[] }] 33 0 #[] #[])
  fields := #[]
  methods := #[k0m0]
  instanceTypes := #[]
  staticTypes := #[]
  resolved := Array.replicate 124 none
  statics := none }

def pool1 : Array CpInfo := pool [(2, .class_ 4), (1, u "java/lang/Object"), (0, u "<init>"), (0, u "()V"), (0, .methodref 8 9), (0, .class_ 10), (0, .nameAndType 11 12), (0, u "com/example/firstfail/firstfail/pairwise/Model$Pair"), (0, u "parameter"), (0, u "()I"), (0, .methodref 8 14), (0, .nameAndType 15 12), (0, u "value"), (0, .methodref 8 17), (0, .nameAndType 18 12), (0, u "otherParameter"), (0, .methodref 8 20), (0, .nameAndType 21 12), (0, u "otherValue"), (0, .integer 2147483647), (0, .methodref 8 24), (0, .nameAndType 25 26), (0, u "of"), (0, u "(IIII)Lcom/example/firstfail/firstfail/pairwise/Model$Pair;"), (0, .methodref 28 29), (0, .class_ 30), (0, .nameAndType 31 32), (0, u "java/lang/Math"), (0, u "min"), (0, u "(II)I"), (0, .methodref 28 34), (0, .nameAndType 35 32), (0, u "max"), (0, .methodref 37 38), (0, .class_ 39), (0, .nameAndType 40 41), (0, u "com/example/firstfail/firstfail/pairwise/PairOfPinLaw"), (0, u "is"), (0, u "(Lcom/example/firstfail/firstfail/pairwise/Model$Pair;IIII)Z"), (3, u "law"), (0, u "(IIII)Z")] 6

def k1m0 : Method := { name := "<init>", desc := "()V", sig := { parameters := [], returnType := none }, accessFlags := 1, code := none }
def k1c1 : Code := { maxStack := 2, maxLocals := 5, code := method_2_code, exceptionTable := #[], attributes := #[] }
def k1m1 : Method := { name := "is", desc := "(Lcom/example/firstfail/firstfail/pairwise/Model$Pair;IIII)Z", sig := { parameters := [(.object "com/example/firstfail/firstfail/pairwise/Model$Pair"), .int, .int, .int, .int], returnType := some .boolean }, accessFlags := 10, code := some k1c1 }
def k1c2 : Code := { maxStack := 5, maxLocals := 14, code := code, exceptionTable := #[], attributes := #[] }
def k1m2 : Method := { name := "law", desc := "(IIII)Z", sig := { parameters := [.int, .int, .int, .int], returnType := some .boolean }, accessFlags := 9, code := some k1c2 }
/-- com/example/firstfail/firstfail/pairwise/PairOfPinLaw -/
def k1 : Class := { plain "com/example/firstfail/firstfail/pairwise/PairOfPinLaw" (some 0) with
  accessFlags := 49
  interfaces := #[]
  cf := some (fileOf pool1 37 #[] #[{ accessFlags := 1, nameIndex := 5, descriptorIndex := 6, attributes := #[] }, { accessFlags := 10, nameIndex := 40, descriptorIndex := 41, attributes := #[] }, { accessFlags := 9, nameIndex := 45, descriptorIndex := 46, attributes := #[] }] 49 2 #[] #[])
  fields := #[]
  methods := #[k1m0, k1m1, k1m2]
  instanceTypes := #[]
  staticTypes := #[]
  resolved := Array.replicate 53 none
  statics := none }

def pool2 : Array CpInfo := pool [(1, .methodref 2 3), (0, .class_ 4), (0, .nameAndType 5 6), (0, u "java/lang/Object"), (0, u "<init>"), (0, u "()V"), (0, .class_ 8), (0, u "java/lang/Record")] 13

def k2c0 : Code := { maxStack := 1, maxLocals := 1, code := jdk_30_method_1_code, exceptionTable := #[], attributes := #[] }
def k2m0 : Method := { name := "<init>", desc := "()V", sig := { parameters := [], returnType := none }, accessFlags := 4, code := some k2c0 }
/-- java/lang/Record -/
def k2 : Class := { plain "java/lang/Record" (some 0) with
  accessFlags := 1057
  interfaces := #[]
  cf := some (fileOf pool2 7 #[] #[{ accessFlags := 4, nameIndex := 5, descriptorIndex := 6, attributes := #[] }] 1057 2 #[] #[])
  fields := #[]
  methods := #[k2m0]
  instanceTypes := #[]
  staticTypes := #[]
  resolved := Array.replicate 22 none
  statics := none }

def pool3 : Array CpInfo := pool [(1, .class_ 2), (0, u "java/lang/Comparable"), (0, .class_ 4), (0, u "java/lang/Object")] 7

/-- java/lang/Comparable -/
def k3 : Class := { plain "java/lang/Comparable" (some 0) with
  accessFlags := 1537
  interfaces := #[]
  cf := some (fileOf pool3 1 #[] #[] 1537 3 #[] #[])
  fields := #[]
  methods := #[]
  instanceTypes := #[]
  staticTypes := #[]
  resolved := Array.replicate 12 none
  statics := none }

def pool4 : Array CpInfo := pool [(1, .methodref 2 3), (0, .class_ 4), (0, .nameAndType 5 6), (0, u "java/lang/Record"), (0, u "<init>"), (0, u "()V"), (12, u "of"), (13, .fieldref 34 35), (0, .class_ 36), (0, .nameAndType 37 38), (0, u "com/example/firstfail/firstfail/pairwise/Model$Pair"), (0, u "parameter"), (0, u "I"), (0, .fieldref 34 40), (0, .nameAndType 41 38), (0, u "value"), (0, .fieldref 34 43), (0, .nameAndType 44 38), (0, u "otherParameter"), (0, .fieldref 34 46), (0, .nameAndType 47 38), (0, u "otherValue"), (0, .methodref 34 49), (0, .nameAndType 5 50), (0, u "(IIII)V"), (21, .class_ 73), (0, u "java/lang/Comparable"), (4, u "(IIII)Lcom/example/firstfail/firstfail/pairwise/Model$Pair;"), (1, u "()I"), (7, .class_ 89), (0, u "com/example/firstfail/firstfail/pairwise/Model")] 30

def k4c0 : Code := { maxStack := 6, maxLocals := 5, code := prog_30_method_1_code, exceptionTable := #[], attributes := #[] }
def k4m0 : Method := { name := "<init>", desc := "(IIII)V", sig := { parameters := [.int, .int, .int, .int], returnType := none }, accessFlags := 1, code := some k4c0 }
def k4c1 : Code := { maxStack := 6, maxLocals := 4, code := prog_30_method_2_code, exceptionTable := #[], attributes := #[] }
def k4m1 : Method := { name := "of", desc := "(IIII)Lcom/example/firstfail/firstfail/pairwise/Model$Pair;", sig := { parameters := [.int, .int, .int, .int], returnType := some (.object "com/example/firstfail/firstfail/pairwise/Model$Pair") }, accessFlags := 9, code := some k4c1 }
def k4c2 : Code := { maxStack := 1, maxLocals := 1, code := prog_30_method_7_code, exceptionTable := #[], attributes := #[] }
def k4m2 : Method := { name := "parameter", desc := "()I", sig := { parameters := [], returnType := some .int }, accessFlags := 1, code := some k4c2 }
def k4c3 : Code := { maxStack := 1, maxLocals := 1, code := prog_30_method_8_code, exceptionTable := #[], attributes := #[] }
def k4m3 : Method := { name := "value", desc := "()I", sig := { parameters := [], returnType := some .int }, accessFlags := 1, code := some k4c3 }
def k4c4 : Code := { maxStack := 1, maxLocals := 1, code := prog_30_method_9_code, exceptionTable := #[], attributes := #[] }
def k4m4 : Method := { name := "otherParameter", desc := "()I", sig := { parameters := [], returnType := some .int }, accessFlags := 1, code := some k4c4 }
def k4c5 : Code := { maxStack := 1, maxLocals := 1, code := prog_30_method_10_code, exceptionTable := #[], attributes := #[] }
def k4m5 : Method := { name := "otherValue", desc := "()I", sig := { parameters := [], returnType := some .int }, accessFlags := 1, code := some k4c5 }
/-- com/example/firstfail/firstfail/pairwise/Model$Pair -/
def k4 : Class := { plain "com/example/firstfail/firstfail/pairwise/Model$Pair" (some 2) with
  accessFlags := 49
  interfaces := #[3]
  cf := some (fileOf pool4 34 #[.nestHost 88] #[{ accessFlags := 1, nameIndex := 5, descriptorIndex := 50, attributes := #[] }, { accessFlags := 9, nameIndex := 19, descriptorIndex := 78, attributes := #[] }, { accessFlags := 1, nameIndex := 37, descriptorIndex := 80, attributes := #[] }, { accessFlags := 1, nameIndex := 41, descriptorIndex := 80, attributes := #[] }, { accessFlags := 1, nameIndex := 44, descriptorIndex := 80, attributes := #[] }, { accessFlags := 1, nameIndex := 47, descriptorIndex := 80, attributes := #[] }] 49 2 #[72] #[{ accessFlags := 18, nameIndex := 37, descriptorIndex := 38, attributes := #[] }, { accessFlags := 18, nameIndex := 41, descriptorIndex := 38, attributes := #[] }, { accessFlags := 18, nameIndex := 44, descriptorIndex := 38, attributes := #[] }, { accessFlags := 18, nameIndex := 47, descriptorIndex := 38, attributes := #[] }])
  fields := #[{ name := "parameter", type := .int, accessFlags := 18, slot := 0, constantValue := 0 }, { name := "value", type := .int, accessFlags := 18, slot := 1, constantValue := 0 }, { name := "otherParameter", type := .int, accessFlags := 18, slot := 2, constantValue := 0 }, { name := "otherValue", type := .int, accessFlags := 18, slot := 3, constantValue := 0 }]
  methods := #[k4m0, k4m1, k4m2, k4m3, k4m4, k4m5]
  instanceTypes := #[.int, .int, .int, .int]
  staticTypes := #[]
  resolved := Array.replicate 120 none
  statics := none }

def pool5 : Array CpInfo := pool [(1, .class_ 2), (0, u "java/lang/Math"), (1, .class_ 6), (1, u "java/lang/Object"), (0, u "<init>"), (0, u "()V"), (89, .class_ 100), (1, u "java/lang/Math$RandomNumberGeneratorHolder"), (71, u "negativeZeroFloatBits"), (0, u "J"), (2, u "negativeZeroDoubleBits"), (21, u "max"), (2, u "min"), (43, u "$assertionsDisabled"), (0, u "Z"), (88, u "(II)I"), (2, u "twoToTheDoubleScaleDown"), (0, u "D"), (4, u "twoToTheDoubleScaleUp"), (9, u "E"), (3, u "PI"), (2, u "TAU"), (2, u "DEGREES_TO_RADIANS"), (0, u "RADIANS_TO_DEGREES")] 94

def k5m0 : Method := { name := "<init>", desc := "()V", sig := { parameters := [], returnType := none }, accessFlags := 2, code := none }
def k5c1 : Code := { maxStack := 2, maxLocals := 2, code := jdk_29_method_65_code, exceptionTable := #[], attributes := #[] }
def k5m1 : Method := { name := "max", desc := "(II)I", sig := { parameters := [.int, .int], returnType := some .int }, accessFlags := 9, code := some k5c1 }
def k5c2 : Code := { maxStack := 2, maxLocals := 2, code := jdk_29_method_69_code, exceptionTable := #[], attributes := #[] }
def k5m2 : Method := { name := "min", desc := "(II)I", sig := { parameters := [.int, .int], returnType := some .int }, accessFlags := 9, code := some k5c2 }
/-- java/lang/Math -/
def k5 : Class := { plain "java/lang/Math" (some 0) with
  accessFlags := 49
  interfaces := #[]
  cf := some (fileOf pool5 1 #[.nestMembers #[98]] #[{ accessFlags := 2, nameIndex := 7, descriptorIndex := 8, attributes := #[] }, { accessFlags := 9, nameIndex := 198, descriptorIndex := 335, attributes := #[] }, { accessFlags := 9, nameIndex := 201, descriptorIndex := 335, attributes := #[] }] 49 4 #[] #[{ accessFlags := 25, nameIndex := 354, descriptorIndex := 339, attributes := #[] }, { accessFlags := 25, nameIndex := 358, descriptorIndex := 339, attributes := #[] }, { accessFlags := 25, nameIndex := 361, descriptorIndex := 339, attributes := #[] }, { accessFlags := 26, nameIndex := 364, descriptorIndex := 339, attributes := #[] }, { accessFlags := 26, nameIndex := 365, descriptorIndex := 339, attributes := #[] }, { accessFlags := 26, nameIndex := 172, descriptorIndex := 173, attributes := #[] }, { accessFlags := 26, nameIndex := 176, descriptorIndex := 173, attributes := #[] }, { accessFlags := 8, nameIndex := 344, descriptorIndex := 339, attributes := #[] }, { accessFlags := 8, nameIndex := 338, descriptorIndex := 339, attributes := #[] }, { accessFlags := 4120, nameIndex := 245, descriptorIndex := 246, attributes := #[] }])
  fields := #[{ name := "E", type := .double, accessFlags := 25, slot := 0, constantValue := 0 }, { name := "PI", type := .double, accessFlags := 25, slot := 1, constantValue := 0 }, { name := "TAU", type := .double, accessFlags := 25, slot := 2, constantValue := 0 }, { name := "DEGREES_TO_RADIANS", type := .double, accessFlags := 26, slot := 3, constantValue := 0 }, { name := "RADIANS_TO_DEGREES", type := .double, accessFlags := 26, slot := 4, constantValue := 0 }, { name := "negativeZeroFloatBits", type := .long, accessFlags := 26, slot := 5, constantValue := 0 }, { name := "negativeZeroDoubleBits", type := .long, accessFlags := 26, slot := 6, constantValue := 0 }, { name := "twoToTheDoubleScaleUp", type := .double, accessFlags := 8, slot := 7, constantValue := 0 }, { name := "twoToTheDoubleScaleDown", type := .double, accessFlags := 8, slot := 8, constantValue := 0 }, { name := "$assertionsDisabled", type := .boolean, accessFlags := 4120, slot := 9, constantValue := 0 }]
  methods := #[k5m0, k5m1, k5m2]
  instanceTypes := #[]
  staticTypes := #[.double, .double, .double, .double, .double, .long, .long, .double, .double, .boolean]
  resolved := Array.replicate 460 none
  statics := none }

def pool6 : Array CpInfo := pool [(1, u "java/lang/Cloneable"), (0, .class_ 1), (0, u "java/lang/Object"), (0, .class_ 3)] 3

/-- java/lang/Cloneable -/
def k6 : Class := { plain "java/lang/Cloneable" (some 0) with
  accessFlags := 1537
  interfaces := #[]
  cf := some (fileOf pool6 2 #[] #[] 1537 4 #[] #[])
  fields := #[]
  methods := #[]
  instanceTypes := #[]
  staticTypes := #[]
  resolved := Array.replicate 8 none
  statics := none }

def pool7 : Array CpInfo := pool [(1, u "java/io/Serializable"), (0, .class_ 1), (0, u "java/lang/Object"), (0, .class_ 3)] 3

/-- java/io/Serializable -/
def k7 : Class := { plain "java/io/Serializable" (some 0) with
  accessFlags := 1537
  interfaces := #[]
  cf := some (fileOf pool7 2 #[] #[] 1537 4 #[] #[])
  fields := #[]
  methods := #[]
  instanceTypes := #[]
  staticTypes := #[]
  resolved := Array.replicate 8 none
  statics := none }

/-- the primitive byte -/
def k8 : Class := { plain "byte" none with kind := .primitive 'B', accessFlags := 0x411 }
/-- [B -/
def k9 : Class := { plain "[B" (some 0) with kind := .array 8 .byte, interfaces := #[6, 7], accessFlags := 1041 }

/-- the primitive int -/
def k10 : Class := { plain "int" none with kind := .primitive 'I', accessFlags := 0x411 }
/-- [I -/
def k11 : Class := { plain "[I" (some 0) with kind := .array 10 .int, interfaces := #[6, 7], accessFlags := 1041 }

def heap : Heap := #[]
def classes : Array Class := #[k0, k1, k2, k3, k4, k5, k6, k7, k8, k9, k10, k11]
def interned : List (Array UInt16 × Addr) := []
def slotsUsed : Nat := 0
def theMethod : MethodId := ⟨1, 2⟩
def args0 : Array Value := #[.int 5, .int 7, .int 6, .int 8]
def aboutOver (below : List Frame) : State where
  vm := { classes := classes, interned := interned.toArray }
  heap := heap
  slotsUsed := slotsUsed
  threads := #[{ frames := .invoking theMethod args0 :: below }]
def below0 : List Frame := [.native { method := ⟨0, 0⟩, args := #[] }]
def about1 : State := aboutOver below0
def p0 : Program := .bare "" "" ""
def e0 : Env := launch0.env 0 0 0
theorem w_frames : about1.frames = Frame.invoking theMethod args0 :: below0 := rfl
set_option maxRecDepth 65536 in
theorem w_args : argsFit about1.vm theMethod args0 = true := by decide +kernel
set_option maxRecDepth 65536 in
theorem w_heap : heapFits about1 = true := by decide +kernel
set_option maxRecDepth 65536 in
theorem w_runnable : about1.curStatus? = some .runnable := by decide +kernel
set_option maxRecDepth 65536 in
theorem w_alone : about1.alone = true := by decide +kernel
set_option maxRecDepth 65536 in
theorem w_named : about1.methodNamed? x = some theMethod := by decide +kernel
set_option maxRecDepth 65536 in
theorem w_hears : about1.hears theMethod below0 = true := by decide +kernel
set_option maxRecDepth 65536 in
theorem w_ripe : about1.ripe theMethod args0 below0 = true := by decide +kernel
theorem w_running : about1.status = .running := rfl
set_option maxRecDepth 65536 in
theorem w_room : about1.hasRoom e0.platform room_1 = true :=
  launch0.hasRoom_least _ room_1 (by decide +kernel) (by decide +kernel) (by decide +kernel) (by decide +kernel) (by decide +kernel) (by decide +kernel)
theorem allAtoms_all (ts : List Jvm.Cond) (a : Array Jvm.Value) (st : Jvm.State) : (allAtoms ts).before a st = ts.all (fun c => c.before a st) := by
  induction ts with
  | nil => rfl
  | cons c t ih =>
    show (Jvm.Cond.and c (allAtoms t)).before a st = _
    rw [Jvm.Cond.before_and, ih, List.all_cons]
def words1 : List Jvm.Cond := Jvm.Cond.code x code maxLocals ret :: tables_1
/-- a 'code' word, met by the world's own term for the bytes: nothing is compared byte by byte -/
theorem code_word {y : MethodName} {bytes : ByteArray} {mx : Nat} {rt : Option FieldType} {a : Array Value} {s : State} {m : MethodId} {meth : Method} {c : Code} (h1 : s.methodNamed? y = some m) (h2 : s.vm.method? m = some meth) (h3 : meth.code = some c) (h4 : c.code = bytes)
    (h5 : (c.maxLocals == mx && c.exceptionTable.isEmpty && decide (c.maxStack ≤ mostOperands) && decide (meth.sig.returnType = rt) && !meth.locks && decide (parseMethodDescriptor y.desc = some meth.sig)) = true) : (Jvm.Cond.code y bytes mx rt).before a s = true := by
  simp only [Bool.and_eq_true, beq_iff_eq, Bool.not_eq_true', decide_eq_true_eq] at h5
  obtain ⟨⟨⟨⟨⟨g1, g2⟩, g3⟩, g4⟩, g5⟩, g6⟩ := h5
  simp [Cond.before, Cond.holds, Cond.value, h1, h2, h3, h4, g1, g2, g3, g4, g5, g6]
def isCode : Jvm.Cond → Bool
  | .code _ _ _ _ => true
  | _ => false
theorem all_split {L : List Jvm.Cond} {P : Jvm.Cond → Bool} (h1 : L.all (fun c => isCode c || P c) = true) (h2 : ∀ c ∈ L.filter isCode, P c = true) : L.all P = true := by
  refine List.all_eq_true.mpr fun c hc => ?_
  have h := List.all_eq_true.mp h1 c hc
  rcases Bool.eq_false_or_eq_true (isCode c) with hi | hi
  · exact h2 c (List.mem_filter.mpr ⟨hc, hi⟩)
  · simpa [hi] using h
set_option maxRecDepth 65536 in
theorem w_c0 : (Jvm.Cond.code x code maxLocals ret).before args0 about1 = true := code_word (m := ⟨1, 2⟩) (meth := k1m2) (c := k1c2) (by decide +kernel) rfl rfl rfl (by decide +kernel)
set_option maxRecDepth 65536 in
theorem w_c1 : (Jvm.Cond.code ({ cls := "com/example/firstfail/firstfail/pairwise/Model$Pair", name := "of", desc := "(IIII)Lcom/example/firstfail/firstfail/pairwise/Model$Pair;" } : Jvm.MethodName) prog_30_method_2_code (4 : Nat) (Option.some (Jvm.ClassFile.FieldType.object "com/example/firstfail/firstfail/pairwise/Model$Pair"))).before args0 about1 = true := code_word (m := ⟨4, 1⟩) (meth := k4m1) (c := k4c1) (by decide +kernel) rfl rfl rfl (by decide +kernel)
set_option maxRecDepth 65536 in
theorem w_c2 : (Jvm.Cond.code ({ cls := "com/example/firstfail/firstfail/pairwise/Model$Pair", name := "<init>", desc := "(IIII)V" } : Jvm.MethodName) prog_30_method_1_code (5 : Nat) (Option.none : Option Jvm.ClassFile.FieldType)).before args0 about1 = true := code_word (m := ⟨4, 0⟩) (meth := k4m0) (c := k4c0) (by decide +kernel) rfl rfl rfl (by decide +kernel)
set_option maxRecDepth 65536 in
theorem w_c3 : (Jvm.Cond.code ({ cls := "java/lang/Record", name := "<init>", desc := "()V" } : Jvm.MethodName) jdk_30_method_1_code (1 : Nat) (Option.none : Option Jvm.ClassFile.FieldType)).before args0 about1 = true := code_word (m := ⟨2, 0⟩) (meth := k2m0) (c := k2c0) (by decide +kernel) rfl rfl rfl (by decide +kernel)
set_option maxRecDepth 65536 in
theorem w_c4 : (Jvm.Cond.code ({ cls := "java/lang/Object", name := "<init>", desc := "()V" } : Jvm.MethodName) object_method_1_code (1 : Nat) (Option.none : Option Jvm.ClassFile.FieldType)).before args0 about1 = true := code_word (m := ⟨0, 0⟩) (meth := k0m0) (c := k0c0) (by decide +kernel) rfl rfl rfl (by decide +kernel)
set_option maxRecDepth 65536 in
theorem w_c5 : (Jvm.Cond.code ({ cls := "java/lang/Math", name := "min", desc := "(II)I" } : Jvm.MethodName) jdk_29_method_69_code (2 : Nat) (Option.some Jvm.ClassFile.FieldType.int)).before args0 about1 = true := code_word (m := ⟨5, 2⟩) (meth := k5m2) (c := k5c2) (by decide +kernel) rfl rfl rfl (by decide +kernel)
set_option maxRecDepth 65536 in
theorem w_c6 : (Jvm.Cond.code ({ cls := "java/lang/Math", name := "max", desc := "(II)I" } : Jvm.MethodName) jdk_29_method_65_code (2 : Nat) (Option.some Jvm.ClassFile.FieldType.int)).before args0 about1 = true := code_word (m := ⟨5, 1⟩) (meth := k5m1) (c := k5c1) (by decide +kernel) rfl rfl rfl (by decide +kernel)
set_option maxRecDepth 65536 in
theorem w_c7 : (Jvm.Cond.code ({ cls := "com/example/firstfail/firstfail/pairwise/PairOfPinLaw", name := "is", desc := "(Lcom/example/firstfail/firstfail/pairwise/Model$Pair;IIII)Z" } : Jvm.MethodName) method_2_code (5 : Nat) (Option.some Jvm.ClassFile.FieldType.boolean)).before args0 about1 = true := code_word (m := ⟨1, 1⟩) (meth := k1m1) (c := k1c1) (by decide +kernel) rfl rfl rfl (by decide +kernel)
set_option maxRecDepth 65536 in
theorem w_c8 : (Jvm.Cond.code ({ cls := "com/example/firstfail/firstfail/pairwise/Model$Pair", name := "parameter", desc := "()I" } : Jvm.MethodName) prog_30_method_7_code (1 : Nat) (Option.some Jvm.ClassFile.FieldType.int)).before args0 about1 = true := code_word (m := ⟨4, 2⟩) (meth := k4m2) (c := k4c2) (by decide +kernel) rfl rfl rfl (by decide +kernel)
set_option maxRecDepth 65536 in
theorem w_c9 : (Jvm.Cond.code ({ cls := "com/example/firstfail/firstfail/pairwise/Model$Pair", name := "value", desc := "()I" } : Jvm.MethodName) prog_30_method_8_code (1 : Nat) (Option.some Jvm.ClassFile.FieldType.int)).before args0 about1 = true := code_word (m := ⟨4, 3⟩) (meth := k4m3) (c := k4c3) (by decide +kernel) rfl rfl rfl (by decide +kernel)
set_option maxRecDepth 65536 in
theorem w_c10 : (Jvm.Cond.code ({ cls := "com/example/firstfail/firstfail/pairwise/Model$Pair", name := "otherParameter", desc := "()I" } : Jvm.MethodName) prog_30_method_9_code (1 : Nat) (Option.some Jvm.ClassFile.FieldType.int)).before args0 about1 = true := code_word (m := ⟨4, 4⟩) (meth := k4m4) (c := k4c4) (by decide +kernel) rfl rfl rfl (by decide +kernel)
set_option maxRecDepth 65536 in
theorem w_c11 : (Jvm.Cond.code ({ cls := "com/example/firstfail/firstfail/pairwise/Model$Pair", name := "otherValue", desc := "()I" } : Jvm.MethodName) prog_30_method_10_code (1 : Nat) (Option.some Jvm.ClassFile.FieldType.int)).before args0 about1 = true := code_word (m := ⟨4, 5⟩) (meth := k4m5) (c := k4c5) (by decide +kernel) rfl rfl rfl (by decide +kernel)
def codes1 : List Jvm.Cond := [Jvm.Cond.code x code maxLocals ret, Jvm.Cond.code ({ cls := "com/example/firstfail/firstfail/pairwise/Model$Pair", name := "of", desc := "(IIII)Lcom/example/firstfail/firstfail/pairwise/Model$Pair;" } : Jvm.MethodName) prog_30_method_2_code (4 : Nat) (Option.some (Jvm.ClassFile.FieldType.object "com/example/firstfail/firstfail/pairwise/Model$Pair")), Jvm.Cond.code ({ cls := "com/example/firstfail/firstfail/pairwise/Model$Pair", name := "<init>", desc := "(IIII)V" } : Jvm.MethodName) prog_30_method_1_code (5 : Nat) (Option.none : Option Jvm.ClassFile.FieldType), Jvm.Cond.code ({ cls := "java/lang/Record", name := "<init>", desc := "()V" } : Jvm.MethodName) jdk_30_method_1_code (1 : Nat) (Option.none : Option Jvm.ClassFile.FieldType), Jvm.Cond.code ({ cls := "java/lang/Object", name := "<init>", desc := "()V" } : Jvm.MethodName) object_method_1_code (1 : Nat) (Option.none : Option Jvm.ClassFile.FieldType), Jvm.Cond.code ({ cls := "java/lang/Math", name := "min", desc := "(II)I" } : Jvm.MethodName) jdk_29_method_69_code (2 : Nat) (Option.some Jvm.ClassFile.FieldType.int), Jvm.Cond.code ({ cls := "java/lang/Math", name := "max", desc := "(II)I" } : Jvm.MethodName) jdk_29_method_65_code (2 : Nat) (Option.some Jvm.ClassFile.FieldType.int), Jvm.Cond.code ({ cls := "com/example/firstfail/firstfail/pairwise/PairOfPinLaw", name := "is", desc := "(Lcom/example/firstfail/firstfail/pairwise/Model$Pair;IIII)Z" } : Jvm.MethodName) method_2_code (5 : Nat) (Option.some Jvm.ClassFile.FieldType.boolean), Jvm.Cond.code ({ cls := "com/example/firstfail/firstfail/pairwise/Model$Pair", name := "parameter", desc := "()I" } : Jvm.MethodName) prog_30_method_7_code (1 : Nat) (Option.some Jvm.ClassFile.FieldType.int), Jvm.Cond.code ({ cls := "com/example/firstfail/firstfail/pairwise/Model$Pair", name := "value", desc := "()I" } : Jvm.MethodName) prog_30_method_8_code (1 : Nat) (Option.some Jvm.ClassFile.FieldType.int), Jvm.Cond.code ({ cls := "com/example/firstfail/firstfail/pairwise/Model$Pair", name := "otherParameter", desc := "()I" } : Jvm.MethodName) prog_30_method_9_code (1 : Nat) (Option.some Jvm.ClassFile.FieldType.int), Jvm.Cond.code ({ cls := "com/example/firstfail/firstfail/pairwise/Model$Pair", name := "otherValue", desc := "()I" } : Jvm.MethodName) prog_30_method_10_code (1 : Nat) (Option.some Jvm.ClassFile.FieldType.int)]
set_option maxRecDepth 65536 in
theorem codes_eq : words1.filter isCode = codes1 := rfl
theorem w_codes : ∀ c ∈ words1.filter isCode, c.before args0 about1 = true := by
  rw [codes_eq]
  intro c hc
  simp only [codes1, List.mem_cons, List.not_mem_nil, or_false] at hc
  rcases hc with rfl | rfl | rfl | rfl | rfl | rfl | rfl | rfl | rfl | rfl | rfl | rfl
  · exact w_c0
  · exact w_c1
  · exact w_c2
  · exact w_c3
  · exact w_c4
  · exact w_c5
  · exact w_c6
  · exact w_c7
  · exact w_c8
  · exact w_c9
  · exact w_c10
  · exact w_c11
set_option maxRecDepth 65536 in
theorem w_t1 : (words1.take 24).all (fun c => isCode c || c.before args0 about1) = true := by decide +kernel
set_option maxRecDepth 65536 in
theorem w_t2 : ((words1.drop 24).take 24).all (fun c => isCode c || c.before args0 about1) = true := by decide +kernel
set_option maxRecDepth 65536 in
theorem w_t3 : ((words1.drop 24).drop 24).all (fun c => isCode c || c.before args0 about1) = true := by decide +kernel
theorem w_tables : (allAtoms (Jvm.Cond.code x code maxLocals ret :: tables_1)).before args0 about1 = true := by
  rw [allAtoms_all]
  show words1.all (fun c => c.before args0 about1) = true
  refine all_split ?_ w_codes
  rw [← List.take_append_drop 24 words1, List.all_append, w_t1, ← List.take_append_drop 24 (words1.drop 24), List.all_append, w_t2, w_t3]
  rfl
set_option maxRecDepth 65536 in
theorem w_case : (Jvm.Cond.and given_1 narrow_1).before args0 about1 = true := by decide +kernel
theorem w_applies : (headSpec (Jvm.Cond.code x code maxLocals ret :: tables_1) room_1).applies x e0.platform about1 = true :=
  (Spec.applies_iff w_frames).mpr ⟨w_running, w_runnable, w_alone, w_named, w_hears, w_ripe, w_room, w_tables⟩
theorem atStart : AtStart classFile x code maxLocals ret World_1 tables_1 room_1 Calls_1 rest_1 Pre_1 launch0 p0 e0 about1 theMethod args0 below0 :=
  ⟨lists_1, trivial, launch0.admits_env _ _ _, launch0.least_env, fairChoices_fair.cas, fairChoices_fair.clock, w_frames, w_args, w_heap, w_applies, trivial, trivial, w_case⟩
end start1
theorem witness_1 : WitnessClaimed_1 := ⟨start1.p0, start1.e0, start1.about1, start1.theMethod, start1.args0, start1.below0, start1.atStart⟩
end Jvm.Pilot.@@N@@
